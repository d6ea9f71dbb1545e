/- The errors' own Is, errorOf, impl.ErrorIs. -/
import Derived.Test.YtlliohgbbboleaaGreatDoorT0
import Derived.Deep.RegionHeld3
open Go Go.RowKit
namespace Go.Proofs.YtlliohgbbboleaaGreatDoor
theorem below_st {n : Nat} {w W W' : World} (h : Below n w W) (hn : n ≤ w.heap.size) (h2 : Below W.heap.size W W') : Below n w W' := h.trans (h2.mono (Nat.le_trans hn h.size))
/-- The dynamic type of an error's number. -/
def ptT : Nat → TypeId
  | 1 => 106
  | 2 => 109
  | 3 => 111
  | 4 => 113
  | 5 => 115
  | 6 => 117
  | 7 => 119
  | 8 => 121
  | 9 => 123
  | 10 => 125
  | 11 => 127
  | _ => 0
/-- Whether an error's number is of another's kind. -/
def isB : Nat → Nat → Bool
  | 1, 1 => true
  | 2, 2 => true
  | 3, 3 => true
  | 3, 4 => true
  | 4, 4 => true
  | 5, 5 => true
  | 5, 4 => true
  | 6, 6 => true
  | 6, 5 => true
  | 6, 4 => true
  | 7, 7 => true
  | 7, 4 => true
  | 8, 8 => true
  | 8, 4 => true
  | 9, 9 => true
  | 10, 10 => true
  | 11, 11 => true
  | 11, 10 => true
  | _, _ => false
set_option maxRecDepth 100000 in
theorem is_1 (j : Nat) (h1 : 1 ≤ j) (h2 : j ≤ 11) (r : Option Addr) (v : Value) (w : World) : Calls Tryz.prog 231 #[.pointer r, .iface (ptT j) v] w fun e w' => e = .returned (.bool (isB 1 j)) ∧ w' = w := by
  match j, h1, h2 with
  | 1, _, _ =>
    show Calls Tryz.prog 231 #[.pointer r, .iface 106 v] w fun e w' => e = .returned (.bool true) ∧ w' = w
    have t1 : ∀ w, (Instr.typeAssert (.iface 106 v) 77 106 true).run Tryz.prog w = .ok (.tuple #[v, .bool true]) w := fun _ => by kernel_rfl
    go_enter Tryz.func231, Tryz.ntmps231
    go_wp2_with (fail)
    go_ret
    exact ⟨rfl, rfl⟩
  | 2, _, _ =>
    show Calls Tryz.prog 231 #[.pointer r, .iface 109 v] w fun e w' => e = .returned (.bool false) ∧ w' = w
    have t1 : ∀ w, (Instr.typeAssert (.iface 109 v) 77 106 true).run Tryz.prog w = .ok (.tuple #[.pointer none, .bool false]) w := fun _ => by kernel_rfl
    go_enter Tryz.func231, Tryz.ntmps231
    go_wp2_with (fail)
    go_ret
    exact ⟨rfl, rfl⟩
  | 3, _, _ =>
    show Calls Tryz.prog 231 #[.pointer r, .iface 111 v] w fun e w' => e = .returned (.bool false) ∧ w' = w
    have t1 : ∀ w, (Instr.typeAssert (.iface 111 v) 77 106 true).run Tryz.prog w = .ok (.tuple #[.pointer none, .bool false]) w := fun _ => by kernel_rfl
    go_enter Tryz.func231, Tryz.ntmps231
    go_wp2_with (fail)
    go_ret
    exact ⟨rfl, rfl⟩
  | 4, _, _ =>
    show Calls Tryz.prog 231 #[.pointer r, .iface 113 v] w fun e w' => e = .returned (.bool false) ∧ w' = w
    have t1 : ∀ w, (Instr.typeAssert (.iface 113 v) 77 106 true).run Tryz.prog w = .ok (.tuple #[.pointer none, .bool false]) w := fun _ => by kernel_rfl
    go_enter Tryz.func231, Tryz.ntmps231
    go_wp2_with (fail)
    go_ret
    exact ⟨rfl, rfl⟩
  | 5, _, _ =>
    show Calls Tryz.prog 231 #[.pointer r, .iface 115 v] w fun e w' => e = .returned (.bool false) ∧ w' = w
    have t1 : ∀ w, (Instr.typeAssert (.iface 115 v) 77 106 true).run Tryz.prog w = .ok (.tuple #[.pointer none, .bool false]) w := fun _ => by kernel_rfl
    go_enter Tryz.func231, Tryz.ntmps231
    go_wp2_with (fail)
    go_ret
    exact ⟨rfl, rfl⟩
  | 6, _, _ =>
    show Calls Tryz.prog 231 #[.pointer r, .iface 117 v] w fun e w' => e = .returned (.bool false) ∧ w' = w
    have t1 : ∀ w, (Instr.typeAssert (.iface 117 v) 77 106 true).run Tryz.prog w = .ok (.tuple #[.pointer none, .bool false]) w := fun _ => by kernel_rfl
    go_enter Tryz.func231, Tryz.ntmps231
    go_wp2_with (fail)
    go_ret
    exact ⟨rfl, rfl⟩
  | 7, _, _ =>
    show Calls Tryz.prog 231 #[.pointer r, .iface 119 v] w fun e w' => e = .returned (.bool false) ∧ w' = w
    have t1 : ∀ w, (Instr.typeAssert (.iface 119 v) 77 106 true).run Tryz.prog w = .ok (.tuple #[.pointer none, .bool false]) w := fun _ => by kernel_rfl
    go_enter Tryz.func231, Tryz.ntmps231
    go_wp2_with (fail)
    go_ret
    exact ⟨rfl, rfl⟩
  | 8, _, _ =>
    show Calls Tryz.prog 231 #[.pointer r, .iface 121 v] w fun e w' => e = .returned (.bool false) ∧ w' = w
    have t1 : ∀ w, (Instr.typeAssert (.iface 121 v) 77 106 true).run Tryz.prog w = .ok (.tuple #[.pointer none, .bool false]) w := fun _ => by kernel_rfl
    go_enter Tryz.func231, Tryz.ntmps231
    go_wp2_with (fail)
    go_ret
    exact ⟨rfl, rfl⟩
  | 9, _, _ =>
    show Calls Tryz.prog 231 #[.pointer r, .iface 123 v] w fun e w' => e = .returned (.bool false) ∧ w' = w
    have t1 : ∀ w, (Instr.typeAssert (.iface 123 v) 77 106 true).run Tryz.prog w = .ok (.tuple #[.pointer none, .bool false]) w := fun _ => by kernel_rfl
    go_enter Tryz.func231, Tryz.ntmps231
    go_wp2_with (fail)
    go_ret
    exact ⟨rfl, rfl⟩
  | 10, _, _ =>
    show Calls Tryz.prog 231 #[.pointer r, .iface 125 v] w fun e w' => e = .returned (.bool false) ∧ w' = w
    have t1 : ∀ w, (Instr.typeAssert (.iface 125 v) 77 106 true).run Tryz.prog w = .ok (.tuple #[.pointer none, .bool false]) w := fun _ => by kernel_rfl
    go_enter Tryz.func231, Tryz.ntmps231
    go_wp2_with (fail)
    go_ret
    exact ⟨rfl, rfl⟩
  | 11, _, _ =>
    show Calls Tryz.prog 231 #[.pointer r, .iface 127 v] w fun e w' => e = .returned (.bool false) ∧ w' = w
    have t1 : ∀ w, (Instr.typeAssert (.iface 127 v) 77 106 true).run Tryz.prog w = .ok (.tuple #[.pointer none, .bool false]) w := fun _ => by kernel_rfl
    go_enter Tryz.func231, Tryz.ntmps231
    go_wp2_with (fail)
    go_ret
    exact ⟨rfl, rfl⟩
set_option maxRecDepth 100000 in
theorem is_2 (j : Nat) (h1 : 1 ≤ j) (h2 : j ≤ 11) (r : Option Addr) (v : Value) (w : World) : Calls Tryz.prog 233 #[.pointer r, .iface (ptT j) v] w fun e w' => e = .returned (.bool (isB 2 j)) ∧ w' = w := by
  match j, h1, h2 with
  | 1, _, _ =>
    show Calls Tryz.prog 233 #[.pointer r, .iface 106 v] w fun e w' => e = .returned (.bool false) ∧ w' = w
    have t2 : ∀ w, (Instr.typeAssert (.iface 106 v) 77 109 true).run Tryz.prog w = .ok (.tuple #[.pointer none, .bool false]) w := fun _ => by kernel_rfl
    go_enter Tryz.func233, Tryz.ntmps233
    go_wp2_with (fail)
    go_ret
    exact ⟨rfl, rfl⟩
  | 2, _, _ =>
    show Calls Tryz.prog 233 #[.pointer r, .iface 109 v] w fun e w' => e = .returned (.bool true) ∧ w' = w
    have t2 : ∀ w, (Instr.typeAssert (.iface 109 v) 77 109 true).run Tryz.prog w = .ok (.tuple #[v, .bool true]) w := fun _ => by kernel_rfl
    go_enter Tryz.func233, Tryz.ntmps233
    go_wp2_with (fail)
    go_ret
    exact ⟨rfl, rfl⟩
  | 3, _, _ =>
    show Calls Tryz.prog 233 #[.pointer r, .iface 111 v] w fun e w' => e = .returned (.bool false) ∧ w' = w
    have t2 : ∀ w, (Instr.typeAssert (.iface 111 v) 77 109 true).run Tryz.prog w = .ok (.tuple #[.pointer none, .bool false]) w := fun _ => by kernel_rfl
    go_enter Tryz.func233, Tryz.ntmps233
    go_wp2_with (fail)
    go_ret
    exact ⟨rfl, rfl⟩
  | 4, _, _ =>
    show Calls Tryz.prog 233 #[.pointer r, .iface 113 v] w fun e w' => e = .returned (.bool false) ∧ w' = w
    have t2 : ∀ w, (Instr.typeAssert (.iface 113 v) 77 109 true).run Tryz.prog w = .ok (.tuple #[.pointer none, .bool false]) w := fun _ => by kernel_rfl
    go_enter Tryz.func233, Tryz.ntmps233
    go_wp2_with (fail)
    go_ret
    exact ⟨rfl, rfl⟩
  | 5, _, _ =>
    show Calls Tryz.prog 233 #[.pointer r, .iface 115 v] w fun e w' => e = .returned (.bool false) ∧ w' = w
    have t2 : ∀ w, (Instr.typeAssert (.iface 115 v) 77 109 true).run Tryz.prog w = .ok (.tuple #[.pointer none, .bool false]) w := fun _ => by kernel_rfl
    go_enter Tryz.func233, Tryz.ntmps233
    go_wp2_with (fail)
    go_ret
    exact ⟨rfl, rfl⟩
  | 6, _, _ =>
    show Calls Tryz.prog 233 #[.pointer r, .iface 117 v] w fun e w' => e = .returned (.bool false) ∧ w' = w
    have t2 : ∀ w, (Instr.typeAssert (.iface 117 v) 77 109 true).run Tryz.prog w = .ok (.tuple #[.pointer none, .bool false]) w := fun _ => by kernel_rfl
    go_enter Tryz.func233, Tryz.ntmps233
    go_wp2_with (fail)
    go_ret
    exact ⟨rfl, rfl⟩
  | 7, _, _ =>
    show Calls Tryz.prog 233 #[.pointer r, .iface 119 v] w fun e w' => e = .returned (.bool false) ∧ w' = w
    have t2 : ∀ w, (Instr.typeAssert (.iface 119 v) 77 109 true).run Tryz.prog w = .ok (.tuple #[.pointer none, .bool false]) w := fun _ => by kernel_rfl
    go_enter Tryz.func233, Tryz.ntmps233
    go_wp2_with (fail)
    go_ret
    exact ⟨rfl, rfl⟩
  | 8, _, _ =>
    show Calls Tryz.prog 233 #[.pointer r, .iface 121 v] w fun e w' => e = .returned (.bool false) ∧ w' = w
    have t2 : ∀ w, (Instr.typeAssert (.iface 121 v) 77 109 true).run Tryz.prog w = .ok (.tuple #[.pointer none, .bool false]) w := fun _ => by kernel_rfl
    go_enter Tryz.func233, Tryz.ntmps233
    go_wp2_with (fail)
    go_ret
    exact ⟨rfl, rfl⟩
  | 9, _, _ =>
    show Calls Tryz.prog 233 #[.pointer r, .iface 123 v] w fun e w' => e = .returned (.bool false) ∧ w' = w
    have t2 : ∀ w, (Instr.typeAssert (.iface 123 v) 77 109 true).run Tryz.prog w = .ok (.tuple #[.pointer none, .bool false]) w := fun _ => by kernel_rfl
    go_enter Tryz.func233, Tryz.ntmps233
    go_wp2_with (fail)
    go_ret
    exact ⟨rfl, rfl⟩
  | 10, _, _ =>
    show Calls Tryz.prog 233 #[.pointer r, .iface 125 v] w fun e w' => e = .returned (.bool false) ∧ w' = w
    have t2 : ∀ w, (Instr.typeAssert (.iface 125 v) 77 109 true).run Tryz.prog w = .ok (.tuple #[.pointer none, .bool false]) w := fun _ => by kernel_rfl
    go_enter Tryz.func233, Tryz.ntmps233
    go_wp2_with (fail)
    go_ret
    exact ⟨rfl, rfl⟩
  | 11, _, _ =>
    show Calls Tryz.prog 233 #[.pointer r, .iface 127 v] w fun e w' => e = .returned (.bool false) ∧ w' = w
    have t2 : ∀ w, (Instr.typeAssert (.iface 127 v) 77 109 true).run Tryz.prog w = .ok (.tuple #[.pointer none, .bool false]) w := fun _ => by kernel_rfl
    go_enter Tryz.func233, Tryz.ntmps233
    go_wp2_with (fail)
    go_ret
    exact ⟨rfl, rfl⟩
set_option maxRecDepth 100000 in
theorem is_3 (j : Nat) (h1 : 1 ≤ j) (h2 : j ≤ 11) (r : Option Addr) (v : Value) (w : World) : Calls Tryz.prog 235 #[.pointer r, .iface (ptT j) v] w fun e w' => e = .returned (.bool (isB 3 j)) ∧ w' = w := by
  match j, h1, h2 with
  | 1, _, _ =>
    show Calls Tryz.prog 235 #[.pointer r, .iface 106 v] w fun e w' => e = .returned (.bool false) ∧ w' = w
    have t3 : ∀ w, (Instr.typeAssert (.iface 106 v) 77 111 true).run Tryz.prog w = .ok (.tuple #[.pointer none, .bool false]) w := fun _ => by kernel_rfl
    have t4 : ∀ w, (Instr.typeAssert (.iface 106 v) 77 113 true).run Tryz.prog w = .ok (.tuple #[.pointer none, .bool false]) w := fun _ => by kernel_rfl
    go_enter Tryz.func235, Tryz.ntmps235
    go_wp2_with (fail)
    go_ret
    exact ⟨rfl, rfl⟩
  | 2, _, _ =>
    show Calls Tryz.prog 235 #[.pointer r, .iface 109 v] w fun e w' => e = .returned (.bool false) ∧ w' = w
    have t3 : ∀ w, (Instr.typeAssert (.iface 109 v) 77 111 true).run Tryz.prog w = .ok (.tuple #[.pointer none, .bool false]) w := fun _ => by kernel_rfl
    have t4 : ∀ w, (Instr.typeAssert (.iface 109 v) 77 113 true).run Tryz.prog w = .ok (.tuple #[.pointer none, .bool false]) w := fun _ => by kernel_rfl
    go_enter Tryz.func235, Tryz.ntmps235
    go_wp2_with (fail)
    go_ret
    exact ⟨rfl, rfl⟩
  | 3, _, _ =>
    show Calls Tryz.prog 235 #[.pointer r, .iface 111 v] w fun e w' => e = .returned (.bool true) ∧ w' = w
    have t3 : ∀ w, (Instr.typeAssert (.iface 111 v) 77 111 true).run Tryz.prog w = .ok (.tuple #[v, .bool true]) w := fun _ => by kernel_rfl
    go_enter Tryz.func235, Tryz.ntmps235
    go_wp2_with (fail)
    go_ret
    exact ⟨rfl, rfl⟩
  | 4, _, _ =>
    show Calls Tryz.prog 235 #[.pointer r, .iface 113 v] w fun e w' => e = .returned (.bool true) ∧ w' = w
    have t3 : ∀ w, (Instr.typeAssert (.iface 113 v) 77 111 true).run Tryz.prog w = .ok (.tuple #[.pointer none, .bool false]) w := fun _ => by kernel_rfl
    have t4 : ∀ w, (Instr.typeAssert (.iface 113 v) 77 113 true).run Tryz.prog w = .ok (.tuple #[v, .bool true]) w := fun _ => by kernel_rfl
    go_enter Tryz.func235, Tryz.ntmps235
    go_wp2_with (fail)
    go_ret
    exact ⟨rfl, rfl⟩
  | 5, _, _ =>
    show Calls Tryz.prog 235 #[.pointer r, .iface 115 v] w fun e w' => e = .returned (.bool false) ∧ w' = w
    have t3 : ∀ w, (Instr.typeAssert (.iface 115 v) 77 111 true).run Tryz.prog w = .ok (.tuple #[.pointer none, .bool false]) w := fun _ => by kernel_rfl
    have t4 : ∀ w, (Instr.typeAssert (.iface 115 v) 77 113 true).run Tryz.prog w = .ok (.tuple #[.pointer none, .bool false]) w := fun _ => by kernel_rfl
    go_enter Tryz.func235, Tryz.ntmps235
    go_wp2_with (fail)
    go_ret
    exact ⟨rfl, rfl⟩
  | 6, _, _ =>
    show Calls Tryz.prog 235 #[.pointer r, .iface 117 v] w fun e w' => e = .returned (.bool false) ∧ w' = w
    have t3 : ∀ w, (Instr.typeAssert (.iface 117 v) 77 111 true).run Tryz.prog w = .ok (.tuple #[.pointer none, .bool false]) w := fun _ => by kernel_rfl
    have t4 : ∀ w, (Instr.typeAssert (.iface 117 v) 77 113 true).run Tryz.prog w = .ok (.tuple #[.pointer none, .bool false]) w := fun _ => by kernel_rfl
    go_enter Tryz.func235, Tryz.ntmps235
    go_wp2_with (fail)
    go_ret
    exact ⟨rfl, rfl⟩
  | 7, _, _ =>
    show Calls Tryz.prog 235 #[.pointer r, .iface 119 v] w fun e w' => e = .returned (.bool false) ∧ w' = w
    have t3 : ∀ w, (Instr.typeAssert (.iface 119 v) 77 111 true).run Tryz.prog w = .ok (.tuple #[.pointer none, .bool false]) w := fun _ => by kernel_rfl
    have t4 : ∀ w, (Instr.typeAssert (.iface 119 v) 77 113 true).run Tryz.prog w = .ok (.tuple #[.pointer none, .bool false]) w := fun _ => by kernel_rfl
    go_enter Tryz.func235, Tryz.ntmps235
    go_wp2_with (fail)
    go_ret
    exact ⟨rfl, rfl⟩
  | 8, _, _ =>
    show Calls Tryz.prog 235 #[.pointer r, .iface 121 v] w fun e w' => e = .returned (.bool false) ∧ w' = w
    have t3 : ∀ w, (Instr.typeAssert (.iface 121 v) 77 111 true).run Tryz.prog w = .ok (.tuple #[.pointer none, .bool false]) w := fun _ => by kernel_rfl
    have t4 : ∀ w, (Instr.typeAssert (.iface 121 v) 77 113 true).run Tryz.prog w = .ok (.tuple #[.pointer none, .bool false]) w := fun _ => by kernel_rfl
    go_enter Tryz.func235, Tryz.ntmps235
    go_wp2_with (fail)
    go_ret
    exact ⟨rfl, rfl⟩
  | 9, _, _ =>
    show Calls Tryz.prog 235 #[.pointer r, .iface 123 v] w fun e w' => e = .returned (.bool false) ∧ w' = w
    have t3 : ∀ w, (Instr.typeAssert (.iface 123 v) 77 111 true).run Tryz.prog w = .ok (.tuple #[.pointer none, .bool false]) w := fun _ => by kernel_rfl
    have t4 : ∀ w, (Instr.typeAssert (.iface 123 v) 77 113 true).run Tryz.prog w = .ok (.tuple #[.pointer none, .bool false]) w := fun _ => by kernel_rfl
    go_enter Tryz.func235, Tryz.ntmps235
    go_wp2_with (fail)
    go_ret
    exact ⟨rfl, rfl⟩
  | 10, _, _ =>
    show Calls Tryz.prog 235 #[.pointer r, .iface 125 v] w fun e w' => e = .returned (.bool false) ∧ w' = w
    have t3 : ∀ w, (Instr.typeAssert (.iface 125 v) 77 111 true).run Tryz.prog w = .ok (.tuple #[.pointer none, .bool false]) w := fun _ => by kernel_rfl
    have t4 : ∀ w, (Instr.typeAssert (.iface 125 v) 77 113 true).run Tryz.prog w = .ok (.tuple #[.pointer none, .bool false]) w := fun _ => by kernel_rfl
    go_enter Tryz.func235, Tryz.ntmps235
    go_wp2_with (fail)
    go_ret
    exact ⟨rfl, rfl⟩
  | 11, _, _ =>
    show Calls Tryz.prog 235 #[.pointer r, .iface 127 v] w fun e w' => e = .returned (.bool false) ∧ w' = w
    have t3 : ∀ w, (Instr.typeAssert (.iface 127 v) 77 111 true).run Tryz.prog w = .ok (.tuple #[.pointer none, .bool false]) w := fun _ => by kernel_rfl
    have t4 : ∀ w, (Instr.typeAssert (.iface 127 v) 77 113 true).run Tryz.prog w = .ok (.tuple #[.pointer none, .bool false]) w := fun _ => by kernel_rfl
    go_enter Tryz.func235, Tryz.ntmps235
    go_wp2_with (fail)
    go_ret
    exact ⟨rfl, rfl⟩
set_option maxRecDepth 100000 in
theorem is_4 (j : Nat) (h1 : 1 ≤ j) (h2 : j ≤ 11) (r : Option Addr) (v : Value) (w : World) : Calls Tryz.prog 237 #[.pointer r, .iface (ptT j) v] w fun e w' => e = .returned (.bool (isB 4 j)) ∧ w' = w := by
  match j, h1, h2 with
  | 1, _, _ =>
    show Calls Tryz.prog 237 #[.pointer r, .iface 106 v] w fun e w' => e = .returned (.bool false) ∧ w' = w
    have t4 : ∀ w, (Instr.typeAssert (.iface 106 v) 77 113 true).run Tryz.prog w = .ok (.tuple #[.pointer none, .bool false]) w := fun _ => by kernel_rfl
    go_enter Tryz.func237, Tryz.ntmps237
    go_wp2_with (fail)
    go_ret
    exact ⟨rfl, rfl⟩
  | 2, _, _ =>
    show Calls Tryz.prog 237 #[.pointer r, .iface 109 v] w fun e w' => e = .returned (.bool false) ∧ w' = w
    have t4 : ∀ w, (Instr.typeAssert (.iface 109 v) 77 113 true).run Tryz.prog w = .ok (.tuple #[.pointer none, .bool false]) w := fun _ => by kernel_rfl
    go_enter Tryz.func237, Tryz.ntmps237
    go_wp2_with (fail)
    go_ret
    exact ⟨rfl, rfl⟩
  | 3, _, _ =>
    show Calls Tryz.prog 237 #[.pointer r, .iface 111 v] w fun e w' => e = .returned (.bool false) ∧ w' = w
    have t4 : ∀ w, (Instr.typeAssert (.iface 111 v) 77 113 true).run Tryz.prog w = .ok (.tuple #[.pointer none, .bool false]) w := fun _ => by kernel_rfl
    go_enter Tryz.func237, Tryz.ntmps237
    go_wp2_with (fail)
    go_ret
    exact ⟨rfl, rfl⟩
  | 4, _, _ =>
    show Calls Tryz.prog 237 #[.pointer r, .iface 113 v] w fun e w' => e = .returned (.bool true) ∧ w' = w
    have t4 : ∀ w, (Instr.typeAssert (.iface 113 v) 77 113 true).run Tryz.prog w = .ok (.tuple #[v, .bool true]) w := fun _ => by kernel_rfl
    go_enter Tryz.func237, Tryz.ntmps237
    go_wp2_with (fail)
    go_ret
    exact ⟨rfl, rfl⟩
  | 5, _, _ =>
    show Calls Tryz.prog 237 #[.pointer r, .iface 115 v] w fun e w' => e = .returned (.bool false) ∧ w' = w
    have t4 : ∀ w, (Instr.typeAssert (.iface 115 v) 77 113 true).run Tryz.prog w = .ok (.tuple #[.pointer none, .bool false]) w := fun _ => by kernel_rfl
    go_enter Tryz.func237, Tryz.ntmps237
    go_wp2_with (fail)
    go_ret
    exact ⟨rfl, rfl⟩
  | 6, _, _ =>
    show Calls Tryz.prog 237 #[.pointer r, .iface 117 v] w fun e w' => e = .returned (.bool false) ∧ w' = w
    have t4 : ∀ w, (Instr.typeAssert (.iface 117 v) 77 113 true).run Tryz.prog w = .ok (.tuple #[.pointer none, .bool false]) w := fun _ => by kernel_rfl
    go_enter Tryz.func237, Tryz.ntmps237
    go_wp2_with (fail)
    go_ret
    exact ⟨rfl, rfl⟩
  | 7, _, _ =>
    show Calls Tryz.prog 237 #[.pointer r, .iface 119 v] w fun e w' => e = .returned (.bool false) ∧ w' = w
    have t4 : ∀ w, (Instr.typeAssert (.iface 119 v) 77 113 true).run Tryz.prog w = .ok (.tuple #[.pointer none, .bool false]) w := fun _ => by kernel_rfl
    go_enter Tryz.func237, Tryz.ntmps237
    go_wp2_with (fail)
    go_ret
    exact ⟨rfl, rfl⟩
  | 8, _, _ =>
    show Calls Tryz.prog 237 #[.pointer r, .iface 121 v] w fun e w' => e = .returned (.bool false) ∧ w' = w
    have t4 : ∀ w, (Instr.typeAssert (.iface 121 v) 77 113 true).run Tryz.prog w = .ok (.tuple #[.pointer none, .bool false]) w := fun _ => by kernel_rfl
    go_enter Tryz.func237, Tryz.ntmps237
    go_wp2_with (fail)
    go_ret
    exact ⟨rfl, rfl⟩
  | 9, _, _ =>
    show Calls Tryz.prog 237 #[.pointer r, .iface 123 v] w fun e w' => e = .returned (.bool false) ∧ w' = w
    have t4 : ∀ w, (Instr.typeAssert (.iface 123 v) 77 113 true).run Tryz.prog w = .ok (.tuple #[.pointer none, .bool false]) w := fun _ => by kernel_rfl
    go_enter Tryz.func237, Tryz.ntmps237
    go_wp2_with (fail)
    go_ret
    exact ⟨rfl, rfl⟩
  | 10, _, _ =>
    show Calls Tryz.prog 237 #[.pointer r, .iface 125 v] w fun e w' => e = .returned (.bool false) ∧ w' = w
    have t4 : ∀ w, (Instr.typeAssert (.iface 125 v) 77 113 true).run Tryz.prog w = .ok (.tuple #[.pointer none, .bool false]) w := fun _ => by kernel_rfl
    go_enter Tryz.func237, Tryz.ntmps237
    go_wp2_with (fail)
    go_ret
    exact ⟨rfl, rfl⟩
  | 11, _, _ =>
    show Calls Tryz.prog 237 #[.pointer r, .iface 127 v] w fun e w' => e = .returned (.bool false) ∧ w' = w
    have t4 : ∀ w, (Instr.typeAssert (.iface 127 v) 77 113 true).run Tryz.prog w = .ok (.tuple #[.pointer none, .bool false]) w := fun _ => by kernel_rfl
    go_enter Tryz.func237, Tryz.ntmps237
    go_wp2_with (fail)
    go_ret
    exact ⟨rfl, rfl⟩
set_option maxRecDepth 100000 in
theorem is_5 (j : Nat) (h1 : 1 ≤ j) (h2 : j ≤ 11) (r : Option Addr) (v : Value) (w : World) : Calls Tryz.prog 239 #[.pointer r, .iface (ptT j) v] w fun e w' => e = .returned (.bool (isB 5 j)) ∧ w' = w := by
  match j, h1, h2 with
  | 1, _, _ =>
    show Calls Tryz.prog 239 #[.pointer r, .iface 106 v] w fun e w' => e = .returned (.bool false) ∧ w' = w
    have t5 : ∀ w, (Instr.typeAssert (.iface 106 v) 77 115 true).run Tryz.prog w = .ok (.tuple #[.pointer none, .bool false]) w := fun _ => by kernel_rfl
    have t4 : ∀ w, (Instr.typeAssert (.iface 106 v) 77 113 true).run Tryz.prog w = .ok (.tuple #[.pointer none, .bool false]) w := fun _ => by kernel_rfl
    go_enter Tryz.func239, Tryz.ntmps239
    go_wp2_with (fail)
    go_ret
    exact ⟨rfl, rfl⟩
  | 2, _, _ =>
    show Calls Tryz.prog 239 #[.pointer r, .iface 109 v] w fun e w' => e = .returned (.bool false) ∧ w' = w
    have t5 : ∀ w, (Instr.typeAssert (.iface 109 v) 77 115 true).run Tryz.prog w = .ok (.tuple #[.pointer none, .bool false]) w := fun _ => by kernel_rfl
    have t4 : ∀ w, (Instr.typeAssert (.iface 109 v) 77 113 true).run Tryz.prog w = .ok (.tuple #[.pointer none, .bool false]) w := fun _ => by kernel_rfl
    go_enter Tryz.func239, Tryz.ntmps239
    go_wp2_with (fail)
    go_ret
    exact ⟨rfl, rfl⟩
  | 3, _, _ =>
    show Calls Tryz.prog 239 #[.pointer r, .iface 111 v] w fun e w' => e = .returned (.bool false) ∧ w' = w
    have t5 : ∀ w, (Instr.typeAssert (.iface 111 v) 77 115 true).run Tryz.prog w = .ok (.tuple #[.pointer none, .bool false]) w := fun _ => by kernel_rfl
    have t4 : ∀ w, (Instr.typeAssert (.iface 111 v) 77 113 true).run Tryz.prog w = .ok (.tuple #[.pointer none, .bool false]) w := fun _ => by kernel_rfl
    go_enter Tryz.func239, Tryz.ntmps239
    go_wp2_with (fail)
    go_ret
    exact ⟨rfl, rfl⟩
  | 4, _, _ =>
    show Calls Tryz.prog 239 #[.pointer r, .iface 113 v] w fun e w' => e = .returned (.bool true) ∧ w' = w
    have t5 : ∀ w, (Instr.typeAssert (.iface 113 v) 77 115 true).run Tryz.prog w = .ok (.tuple #[.pointer none, .bool false]) w := fun _ => by kernel_rfl
    have t4 : ∀ w, (Instr.typeAssert (.iface 113 v) 77 113 true).run Tryz.prog w = .ok (.tuple #[v, .bool true]) w := fun _ => by kernel_rfl
    go_enter Tryz.func239, Tryz.ntmps239
    go_wp2_with (fail)
    go_ret
    exact ⟨rfl, rfl⟩
  | 5, _, _ =>
    show Calls Tryz.prog 239 #[.pointer r, .iface 115 v] w fun e w' => e = .returned (.bool true) ∧ w' = w
    have t5 : ∀ w, (Instr.typeAssert (.iface 115 v) 77 115 true).run Tryz.prog w = .ok (.tuple #[v, .bool true]) w := fun _ => by kernel_rfl
    go_enter Tryz.func239, Tryz.ntmps239
    go_wp2_with (fail)
    go_ret
    exact ⟨rfl, rfl⟩
  | 6, _, _ =>
    show Calls Tryz.prog 239 #[.pointer r, .iface 117 v] w fun e w' => e = .returned (.bool false) ∧ w' = w
    have t5 : ∀ w, (Instr.typeAssert (.iface 117 v) 77 115 true).run Tryz.prog w = .ok (.tuple #[.pointer none, .bool false]) w := fun _ => by kernel_rfl
    have t4 : ∀ w, (Instr.typeAssert (.iface 117 v) 77 113 true).run Tryz.prog w = .ok (.tuple #[.pointer none, .bool false]) w := fun _ => by kernel_rfl
    go_enter Tryz.func239, Tryz.ntmps239
    go_wp2_with (fail)
    go_ret
    exact ⟨rfl, rfl⟩
  | 7, _, _ =>
    show Calls Tryz.prog 239 #[.pointer r, .iface 119 v] w fun e w' => e = .returned (.bool false) ∧ w' = w
    have t5 : ∀ w, (Instr.typeAssert (.iface 119 v) 77 115 true).run Tryz.prog w = .ok (.tuple #[.pointer none, .bool false]) w := fun _ => by kernel_rfl
    have t4 : ∀ w, (Instr.typeAssert (.iface 119 v) 77 113 true).run Tryz.prog w = .ok (.tuple #[.pointer none, .bool false]) w := fun _ => by kernel_rfl
    go_enter Tryz.func239, Tryz.ntmps239
    go_wp2_with (fail)
    go_ret
    exact ⟨rfl, rfl⟩
  | 8, _, _ =>
    show Calls Tryz.prog 239 #[.pointer r, .iface 121 v] w fun e w' => e = .returned (.bool false) ∧ w' = w
    have t5 : ∀ w, (Instr.typeAssert (.iface 121 v) 77 115 true).run Tryz.prog w = .ok (.tuple #[.pointer none, .bool false]) w := fun _ => by kernel_rfl
    have t4 : ∀ w, (Instr.typeAssert (.iface 121 v) 77 113 true).run Tryz.prog w = .ok (.tuple #[.pointer none, .bool false]) w := fun _ => by kernel_rfl
    go_enter Tryz.func239, Tryz.ntmps239
    go_wp2_with (fail)
    go_ret
    exact ⟨rfl, rfl⟩
  | 9, _, _ =>
    show Calls Tryz.prog 239 #[.pointer r, .iface 123 v] w fun e w' => e = .returned (.bool false) ∧ w' = w
    have t5 : ∀ w, (Instr.typeAssert (.iface 123 v) 77 115 true).run Tryz.prog w = .ok (.tuple #[.pointer none, .bool false]) w := fun _ => by kernel_rfl
    have t4 : ∀ w, (Instr.typeAssert (.iface 123 v) 77 113 true).run Tryz.prog w = .ok (.tuple #[.pointer none, .bool false]) w := fun _ => by kernel_rfl
    go_enter Tryz.func239, Tryz.ntmps239
    go_wp2_with (fail)
    go_ret
    exact ⟨rfl, rfl⟩
  | 10, _, _ =>
    show Calls Tryz.prog 239 #[.pointer r, .iface 125 v] w fun e w' => e = .returned (.bool false) ∧ w' = w
    have t5 : ∀ w, (Instr.typeAssert (.iface 125 v) 77 115 true).run Tryz.prog w = .ok (.tuple #[.pointer none, .bool false]) w := fun _ => by kernel_rfl
    have t4 : ∀ w, (Instr.typeAssert (.iface 125 v) 77 113 true).run Tryz.prog w = .ok (.tuple #[.pointer none, .bool false]) w := fun _ => by kernel_rfl
    go_enter Tryz.func239, Tryz.ntmps239
    go_wp2_with (fail)
    go_ret
    exact ⟨rfl, rfl⟩
  | 11, _, _ =>
    show Calls Tryz.prog 239 #[.pointer r, .iface 127 v] w fun e w' => e = .returned (.bool false) ∧ w' = w
    have t5 : ∀ w, (Instr.typeAssert (.iface 127 v) 77 115 true).run Tryz.prog w = .ok (.tuple #[.pointer none, .bool false]) w := fun _ => by kernel_rfl
    have t4 : ∀ w, (Instr.typeAssert (.iface 127 v) 77 113 true).run Tryz.prog w = .ok (.tuple #[.pointer none, .bool false]) w := fun _ => by kernel_rfl
    go_enter Tryz.func239, Tryz.ntmps239
    go_wp2_with (fail)
    go_ret
    exact ⟨rfl, rfl⟩
set_option maxRecDepth 100000 in
theorem is_6 (j : Nat) (h1 : 1 ≤ j) (h2 : j ≤ 11) (r : Option Addr) (v : Value) (w : World) : Calls Tryz.prog 241 #[.pointer r, .iface (ptT j) v] w fun e w' => e = .returned (.bool (isB 6 j)) ∧ w' = w := by
  match j, h1, h2 with
  | 1, _, _ =>
    show Calls Tryz.prog 241 #[.pointer r, .iface 106 v] w fun e w' => e = .returned (.bool false) ∧ w' = w
    have t6 : ∀ w, (Instr.typeAssert (.iface 106 v) 77 117 true).run Tryz.prog w = .ok (.tuple #[.pointer none, .bool false]) w := fun _ => by kernel_rfl
    have t5 : ∀ w, (Instr.typeAssert (.iface 106 v) 77 115 true).run Tryz.prog w = .ok (.tuple #[.pointer none, .bool false]) w := fun _ => by kernel_rfl
    have t4 : ∀ w, (Instr.typeAssert (.iface 106 v) 77 113 true).run Tryz.prog w = .ok (.tuple #[.pointer none, .bool false]) w := fun _ => by kernel_rfl
    go_enter Tryz.func241, Tryz.ntmps241
    go_wp2_with (fail)
    go_ret
    exact ⟨rfl, rfl⟩
  | 2, _, _ =>
    show Calls Tryz.prog 241 #[.pointer r, .iface 109 v] w fun e w' => e = .returned (.bool false) ∧ w' = w
    have t6 : ∀ w, (Instr.typeAssert (.iface 109 v) 77 117 true).run Tryz.prog w = .ok (.tuple #[.pointer none, .bool false]) w := fun _ => by kernel_rfl
    have t5 : ∀ w, (Instr.typeAssert (.iface 109 v) 77 115 true).run Tryz.prog w = .ok (.tuple #[.pointer none, .bool false]) w := fun _ => by kernel_rfl
    have t4 : ∀ w, (Instr.typeAssert (.iface 109 v) 77 113 true).run Tryz.prog w = .ok (.tuple #[.pointer none, .bool false]) w := fun _ => by kernel_rfl
    go_enter Tryz.func241, Tryz.ntmps241
    go_wp2_with (fail)
    go_ret
    exact ⟨rfl, rfl⟩
  | 3, _, _ =>
    show Calls Tryz.prog 241 #[.pointer r, .iface 111 v] w fun e w' => e = .returned (.bool false) ∧ w' = w
    have t6 : ∀ w, (Instr.typeAssert (.iface 111 v) 77 117 true).run Tryz.prog w = .ok (.tuple #[.pointer none, .bool false]) w := fun _ => by kernel_rfl
    have t5 : ∀ w, (Instr.typeAssert (.iface 111 v) 77 115 true).run Tryz.prog w = .ok (.tuple #[.pointer none, .bool false]) w := fun _ => by kernel_rfl
    have t4 : ∀ w, (Instr.typeAssert (.iface 111 v) 77 113 true).run Tryz.prog w = .ok (.tuple #[.pointer none, .bool false]) w := fun _ => by kernel_rfl
    go_enter Tryz.func241, Tryz.ntmps241
    go_wp2_with (fail)
    go_ret
    exact ⟨rfl, rfl⟩
  | 4, _, _ =>
    show Calls Tryz.prog 241 #[.pointer r, .iface 113 v] w fun e w' => e = .returned (.bool true) ∧ w' = w
    have t6 : ∀ w, (Instr.typeAssert (.iface 113 v) 77 117 true).run Tryz.prog w = .ok (.tuple #[.pointer none, .bool false]) w := fun _ => by kernel_rfl
    have t5 : ∀ w, (Instr.typeAssert (.iface 113 v) 77 115 true).run Tryz.prog w = .ok (.tuple #[.pointer none, .bool false]) w := fun _ => by kernel_rfl
    have t4 : ∀ w, (Instr.typeAssert (.iface 113 v) 77 113 true).run Tryz.prog w = .ok (.tuple #[v, .bool true]) w := fun _ => by kernel_rfl
    go_enter Tryz.func241, Tryz.ntmps241
    go_wp2_with (fail)
    go_ret
    exact ⟨rfl, rfl⟩
  | 5, _, _ =>
    show Calls Tryz.prog 241 #[.pointer r, .iface 115 v] w fun e w' => e = .returned (.bool true) ∧ w' = w
    have t6 : ∀ w, (Instr.typeAssert (.iface 115 v) 77 117 true).run Tryz.prog w = .ok (.tuple #[.pointer none, .bool false]) w := fun _ => by kernel_rfl
    have t5 : ∀ w, (Instr.typeAssert (.iface 115 v) 77 115 true).run Tryz.prog w = .ok (.tuple #[v, .bool true]) w := fun _ => by kernel_rfl
    go_enter Tryz.func241, Tryz.ntmps241
    go_wp2_with (fail)
    go_ret
    exact ⟨rfl, rfl⟩
  | 6, _, _ =>
    show Calls Tryz.prog 241 #[.pointer r, .iface 117 v] w fun e w' => e = .returned (.bool true) ∧ w' = w
    have t6 : ∀ w, (Instr.typeAssert (.iface 117 v) 77 117 true).run Tryz.prog w = .ok (.tuple #[v, .bool true]) w := fun _ => by kernel_rfl
    go_enter Tryz.func241, Tryz.ntmps241
    go_wp2_with (fail)
    go_ret
    exact ⟨rfl, rfl⟩
  | 7, _, _ =>
    show Calls Tryz.prog 241 #[.pointer r, .iface 119 v] w fun e w' => e = .returned (.bool false) ∧ w' = w
    have t6 : ∀ w, (Instr.typeAssert (.iface 119 v) 77 117 true).run Tryz.prog w = .ok (.tuple #[.pointer none, .bool false]) w := fun _ => by kernel_rfl
    have t5 : ∀ w, (Instr.typeAssert (.iface 119 v) 77 115 true).run Tryz.prog w = .ok (.tuple #[.pointer none, .bool false]) w := fun _ => by kernel_rfl
    have t4 : ∀ w, (Instr.typeAssert (.iface 119 v) 77 113 true).run Tryz.prog w = .ok (.tuple #[.pointer none, .bool false]) w := fun _ => by kernel_rfl
    go_enter Tryz.func241, Tryz.ntmps241
    go_wp2_with (fail)
    go_ret
    exact ⟨rfl, rfl⟩
  | 8, _, _ =>
    show Calls Tryz.prog 241 #[.pointer r, .iface 121 v] w fun e w' => e = .returned (.bool false) ∧ w' = w
    have t6 : ∀ w, (Instr.typeAssert (.iface 121 v) 77 117 true).run Tryz.prog w = .ok (.tuple #[.pointer none, .bool false]) w := fun _ => by kernel_rfl
    have t5 : ∀ w, (Instr.typeAssert (.iface 121 v) 77 115 true).run Tryz.prog w = .ok (.tuple #[.pointer none, .bool false]) w := fun _ => by kernel_rfl
    have t4 : ∀ w, (Instr.typeAssert (.iface 121 v) 77 113 true).run Tryz.prog w = .ok (.tuple #[.pointer none, .bool false]) w := fun _ => by kernel_rfl
    go_enter Tryz.func241, Tryz.ntmps241
    go_wp2_with (fail)
    go_ret
    exact ⟨rfl, rfl⟩
  | 9, _, _ =>
    show Calls Tryz.prog 241 #[.pointer r, .iface 123 v] w fun e w' => e = .returned (.bool false) ∧ w' = w
    have t6 : ∀ w, (Instr.typeAssert (.iface 123 v) 77 117 true).run Tryz.prog w = .ok (.tuple #[.pointer none, .bool false]) w := fun _ => by kernel_rfl
    have t5 : ∀ w, (Instr.typeAssert (.iface 123 v) 77 115 true).run Tryz.prog w = .ok (.tuple #[.pointer none, .bool false]) w := fun _ => by kernel_rfl
    have t4 : ∀ w, (Instr.typeAssert (.iface 123 v) 77 113 true).run Tryz.prog w = .ok (.tuple #[.pointer none, .bool false]) w := fun _ => by kernel_rfl
    go_enter Tryz.func241, Tryz.ntmps241
    go_wp2_with (fail)
    go_ret
    exact ⟨rfl, rfl⟩
  | 10, _, _ =>
    show Calls Tryz.prog 241 #[.pointer r, .iface 125 v] w fun e w' => e = .returned (.bool false) ∧ w' = w
    have t6 : ∀ w, (Instr.typeAssert (.iface 125 v) 77 117 true).run Tryz.prog w = .ok (.tuple #[.pointer none, .bool false]) w := fun _ => by kernel_rfl
    have t5 : ∀ w, (Instr.typeAssert (.iface 125 v) 77 115 true).run Tryz.prog w = .ok (.tuple #[.pointer none, .bool false]) w := fun _ => by kernel_rfl
    have t4 : ∀ w, (Instr.typeAssert (.iface 125 v) 77 113 true).run Tryz.prog w = .ok (.tuple #[.pointer none, .bool false]) w := fun _ => by kernel_rfl
    go_enter Tryz.func241, Tryz.ntmps241
    go_wp2_with (fail)
    go_ret
    exact ⟨rfl, rfl⟩
  | 11, _, _ =>
    show Calls Tryz.prog 241 #[.pointer r, .iface 127 v] w fun e w' => e = .returned (.bool false) ∧ w' = w
    have t6 : ∀ w, (Instr.typeAssert (.iface 127 v) 77 117 true).run Tryz.prog w = .ok (.tuple #[.pointer none, .bool false]) w := fun _ => by kernel_rfl
    have t5 : ∀ w, (Instr.typeAssert (.iface 127 v) 77 115 true).run Tryz.prog w = .ok (.tuple #[.pointer none, .bool false]) w := fun _ => by kernel_rfl
    have t4 : ∀ w, (Instr.typeAssert (.iface 127 v) 77 113 true).run Tryz.prog w = .ok (.tuple #[.pointer none, .bool false]) w := fun _ => by kernel_rfl
    go_enter Tryz.func241, Tryz.ntmps241
    go_wp2_with (fail)
    go_ret
    exact ⟨rfl, rfl⟩
set_option maxRecDepth 100000 in
theorem is_7 (j : Nat) (h1 : 1 ≤ j) (h2 : j ≤ 11) (r : Option Addr) (v : Value) (w : World) : Calls Tryz.prog 243 #[.pointer r, .iface (ptT j) v] w fun e w' => e = .returned (.bool (isB 7 j)) ∧ w' = w := by
  match j, h1, h2 with
  | 1, _, _ =>
    show Calls Tryz.prog 243 #[.pointer r, .iface 106 v] w fun e w' => e = .returned (.bool false) ∧ w' = w
    have t7 : ∀ w, (Instr.typeAssert (.iface 106 v) 77 119 true).run Tryz.prog w = .ok (.tuple #[.pointer none, .bool false]) w := fun _ => by kernel_rfl
    have t4 : ∀ w, (Instr.typeAssert (.iface 106 v) 77 113 true).run Tryz.prog w = .ok (.tuple #[.pointer none, .bool false]) w := fun _ => by kernel_rfl
    go_enter Tryz.func243, Tryz.ntmps243
    go_wp2_with (fail)
    go_ret
    exact ⟨rfl, rfl⟩
  | 2, _, _ =>
    show Calls Tryz.prog 243 #[.pointer r, .iface 109 v] w fun e w' => e = .returned (.bool false) ∧ w' = w
    have t7 : ∀ w, (Instr.typeAssert (.iface 109 v) 77 119 true).run Tryz.prog w = .ok (.tuple #[.pointer none, .bool false]) w := fun _ => by kernel_rfl
    have t4 : ∀ w, (Instr.typeAssert (.iface 109 v) 77 113 true).run Tryz.prog w = .ok (.tuple #[.pointer none, .bool false]) w := fun _ => by kernel_rfl
    go_enter Tryz.func243, Tryz.ntmps243
    go_wp2_with (fail)
    go_ret
    exact ⟨rfl, rfl⟩
  | 3, _, _ =>
    show Calls Tryz.prog 243 #[.pointer r, .iface 111 v] w fun e w' => e = .returned (.bool false) ∧ w' = w
    have t7 : ∀ w, (Instr.typeAssert (.iface 111 v) 77 119 true).run Tryz.prog w = .ok (.tuple #[.pointer none, .bool false]) w := fun _ => by kernel_rfl
    have t4 : ∀ w, (Instr.typeAssert (.iface 111 v) 77 113 true).run Tryz.prog w = .ok (.tuple #[.pointer none, .bool false]) w := fun _ => by kernel_rfl
    go_enter Tryz.func243, Tryz.ntmps243
    go_wp2_with (fail)
    go_ret
    exact ⟨rfl, rfl⟩
  | 4, _, _ =>
    show Calls Tryz.prog 243 #[.pointer r, .iface 113 v] w fun e w' => e = .returned (.bool true) ∧ w' = w
    have t7 : ∀ w, (Instr.typeAssert (.iface 113 v) 77 119 true).run Tryz.prog w = .ok (.tuple #[.pointer none, .bool false]) w := fun _ => by kernel_rfl
    have t4 : ∀ w, (Instr.typeAssert (.iface 113 v) 77 113 true).run Tryz.prog w = .ok (.tuple #[v, .bool true]) w := fun _ => by kernel_rfl
    go_enter Tryz.func243, Tryz.ntmps243
    go_wp2_with (fail)
    go_ret
    exact ⟨rfl, rfl⟩
  | 5, _, _ =>
    show Calls Tryz.prog 243 #[.pointer r, .iface 115 v] w fun e w' => e = .returned (.bool false) ∧ w' = w
    have t7 : ∀ w, (Instr.typeAssert (.iface 115 v) 77 119 true).run Tryz.prog w = .ok (.tuple #[.pointer none, .bool false]) w := fun _ => by kernel_rfl
    have t4 : ∀ w, (Instr.typeAssert (.iface 115 v) 77 113 true).run Tryz.prog w = .ok (.tuple #[.pointer none, .bool false]) w := fun _ => by kernel_rfl
    go_enter Tryz.func243, Tryz.ntmps243
    go_wp2_with (fail)
    go_ret
    exact ⟨rfl, rfl⟩
  | 6, _, _ =>
    show Calls Tryz.prog 243 #[.pointer r, .iface 117 v] w fun e w' => e = .returned (.bool false) ∧ w' = w
    have t7 : ∀ w, (Instr.typeAssert (.iface 117 v) 77 119 true).run Tryz.prog w = .ok (.tuple #[.pointer none, .bool false]) w := fun _ => by kernel_rfl
    have t4 : ∀ w, (Instr.typeAssert (.iface 117 v) 77 113 true).run Tryz.prog w = .ok (.tuple #[.pointer none, .bool false]) w := fun _ => by kernel_rfl
    go_enter Tryz.func243, Tryz.ntmps243
    go_wp2_with (fail)
    go_ret
    exact ⟨rfl, rfl⟩
  | 7, _, _ =>
    show Calls Tryz.prog 243 #[.pointer r, .iface 119 v] w fun e w' => e = .returned (.bool true) ∧ w' = w
    have t7 : ∀ w, (Instr.typeAssert (.iface 119 v) 77 119 true).run Tryz.prog w = .ok (.tuple #[v, .bool true]) w := fun _ => by kernel_rfl
    go_enter Tryz.func243, Tryz.ntmps243
    go_wp2_with (fail)
    go_ret
    exact ⟨rfl, rfl⟩
  | 8, _, _ =>
    show Calls Tryz.prog 243 #[.pointer r, .iface 121 v] w fun e w' => e = .returned (.bool false) ∧ w' = w
    have t7 : ∀ w, (Instr.typeAssert (.iface 121 v) 77 119 true).run Tryz.prog w = .ok (.tuple #[.pointer none, .bool false]) w := fun _ => by kernel_rfl
    have t4 : ∀ w, (Instr.typeAssert (.iface 121 v) 77 113 true).run Tryz.prog w = .ok (.tuple #[.pointer none, .bool false]) w := fun _ => by kernel_rfl
    go_enter Tryz.func243, Tryz.ntmps243
    go_wp2_with (fail)
    go_ret
    exact ⟨rfl, rfl⟩
  | 9, _, _ =>
    show Calls Tryz.prog 243 #[.pointer r, .iface 123 v] w fun e w' => e = .returned (.bool false) ∧ w' = w
    have t7 : ∀ w, (Instr.typeAssert (.iface 123 v) 77 119 true).run Tryz.prog w = .ok (.tuple #[.pointer none, .bool false]) w := fun _ => by kernel_rfl
    have t4 : ∀ w, (Instr.typeAssert (.iface 123 v) 77 113 true).run Tryz.prog w = .ok (.tuple #[.pointer none, .bool false]) w := fun _ => by kernel_rfl
    go_enter Tryz.func243, Tryz.ntmps243
    go_wp2_with (fail)
    go_ret
    exact ⟨rfl, rfl⟩
  | 10, _, _ =>
    show Calls Tryz.prog 243 #[.pointer r, .iface 125 v] w fun e w' => e = .returned (.bool false) ∧ w' = w
    have t7 : ∀ w, (Instr.typeAssert (.iface 125 v) 77 119 true).run Tryz.prog w = .ok (.tuple #[.pointer none, .bool false]) w := fun _ => by kernel_rfl
    have t4 : ∀ w, (Instr.typeAssert (.iface 125 v) 77 113 true).run Tryz.prog w = .ok (.tuple #[.pointer none, .bool false]) w := fun _ => by kernel_rfl
    go_enter Tryz.func243, Tryz.ntmps243
    go_wp2_with (fail)
    go_ret
    exact ⟨rfl, rfl⟩
  | 11, _, _ =>
    show Calls Tryz.prog 243 #[.pointer r, .iface 127 v] w fun e w' => e = .returned (.bool false) ∧ w' = w
    have t7 : ∀ w, (Instr.typeAssert (.iface 127 v) 77 119 true).run Tryz.prog w = .ok (.tuple #[.pointer none, .bool false]) w := fun _ => by kernel_rfl
    have t4 : ∀ w, (Instr.typeAssert (.iface 127 v) 77 113 true).run Tryz.prog w = .ok (.tuple #[.pointer none, .bool false]) w := fun _ => by kernel_rfl
    go_enter Tryz.func243, Tryz.ntmps243
    go_wp2_with (fail)
    go_ret
    exact ⟨rfl, rfl⟩
set_option maxRecDepth 100000 in
theorem is_8 (j : Nat) (h1 : 1 ≤ j) (h2 : j ≤ 11) (r : Option Addr) (v : Value) (w : World) : Calls Tryz.prog 245 #[.pointer r, .iface (ptT j) v] w fun e w' => e = .returned (.bool (isB 8 j)) ∧ w' = w := by
  match j, h1, h2 with
  | 1, _, _ =>
    show Calls Tryz.prog 245 #[.pointer r, .iface 106 v] w fun e w' => e = .returned (.bool false) ∧ w' = w
    have t8 : ∀ w, (Instr.typeAssert (.iface 106 v) 77 121 true).run Tryz.prog w = .ok (.tuple #[.pointer none, .bool false]) w := fun _ => by kernel_rfl
    have t4 : ∀ w, (Instr.typeAssert (.iface 106 v) 77 113 true).run Tryz.prog w = .ok (.tuple #[.pointer none, .bool false]) w := fun _ => by kernel_rfl
    go_enter Tryz.func245, Tryz.ntmps245
    go_wp2_with (fail)
    go_ret
    exact ⟨rfl, rfl⟩
  | 2, _, _ =>
    show Calls Tryz.prog 245 #[.pointer r, .iface 109 v] w fun e w' => e = .returned (.bool false) ∧ w' = w
    have t8 : ∀ w, (Instr.typeAssert (.iface 109 v) 77 121 true).run Tryz.prog w = .ok (.tuple #[.pointer none, .bool false]) w := fun _ => by kernel_rfl
    have t4 : ∀ w, (Instr.typeAssert (.iface 109 v) 77 113 true).run Tryz.prog w = .ok (.tuple #[.pointer none, .bool false]) w := fun _ => by kernel_rfl
    go_enter Tryz.func245, Tryz.ntmps245
    go_wp2_with (fail)
    go_ret
    exact ⟨rfl, rfl⟩
  | 3, _, _ =>
    show Calls Tryz.prog 245 #[.pointer r, .iface 111 v] w fun e w' => e = .returned (.bool false) ∧ w' = w
    have t8 : ∀ w, (Instr.typeAssert (.iface 111 v) 77 121 true).run Tryz.prog w = .ok (.tuple #[.pointer none, .bool false]) w := fun _ => by kernel_rfl
    have t4 : ∀ w, (Instr.typeAssert (.iface 111 v) 77 113 true).run Tryz.prog w = .ok (.tuple #[.pointer none, .bool false]) w := fun _ => by kernel_rfl
    go_enter Tryz.func245, Tryz.ntmps245
    go_wp2_with (fail)
    go_ret
    exact ⟨rfl, rfl⟩
  | 4, _, _ =>
    show Calls Tryz.prog 245 #[.pointer r, .iface 113 v] w fun e w' => e = .returned (.bool true) ∧ w' = w
    have t8 : ∀ w, (Instr.typeAssert (.iface 113 v) 77 121 true).run Tryz.prog w = .ok (.tuple #[.pointer none, .bool false]) w := fun _ => by kernel_rfl
    have t4 : ∀ w, (Instr.typeAssert (.iface 113 v) 77 113 true).run Tryz.prog w = .ok (.tuple #[v, .bool true]) w := fun _ => by kernel_rfl
    go_enter Tryz.func245, Tryz.ntmps245
    go_wp2_with (fail)
    go_ret
    exact ⟨rfl, rfl⟩
  | 5, _, _ =>
    show Calls Tryz.prog 245 #[.pointer r, .iface 115 v] w fun e w' => e = .returned (.bool false) ∧ w' = w
    have t8 : ∀ w, (Instr.typeAssert (.iface 115 v) 77 121 true).run Tryz.prog w = .ok (.tuple #[.pointer none, .bool false]) w := fun _ => by kernel_rfl
    have t4 : ∀ w, (Instr.typeAssert (.iface 115 v) 77 113 true).run Tryz.prog w = .ok (.tuple #[.pointer none, .bool false]) w := fun _ => by kernel_rfl
    go_enter Tryz.func245, Tryz.ntmps245
    go_wp2_with (fail)
    go_ret
    exact ⟨rfl, rfl⟩
  | 6, _, _ =>
    show Calls Tryz.prog 245 #[.pointer r, .iface 117 v] w fun e w' => e = .returned (.bool false) ∧ w' = w
    have t8 : ∀ w, (Instr.typeAssert (.iface 117 v) 77 121 true).run Tryz.prog w = .ok (.tuple #[.pointer none, .bool false]) w := fun _ => by kernel_rfl
    have t4 : ∀ w, (Instr.typeAssert (.iface 117 v) 77 113 true).run Tryz.prog w = .ok (.tuple #[.pointer none, .bool false]) w := fun _ => by kernel_rfl
    go_enter Tryz.func245, Tryz.ntmps245
    go_wp2_with (fail)
    go_ret
    exact ⟨rfl, rfl⟩
  | 7, _, _ =>
    show Calls Tryz.prog 245 #[.pointer r, .iface 119 v] w fun e w' => e = .returned (.bool false) ∧ w' = w
    have t8 : ∀ w, (Instr.typeAssert (.iface 119 v) 77 121 true).run Tryz.prog w = .ok (.tuple #[.pointer none, .bool false]) w := fun _ => by kernel_rfl
    have t4 : ∀ w, (Instr.typeAssert (.iface 119 v) 77 113 true).run Tryz.prog w = .ok (.tuple #[.pointer none, .bool false]) w := fun _ => by kernel_rfl
    go_enter Tryz.func245, Tryz.ntmps245
    go_wp2_with (fail)
    go_ret
    exact ⟨rfl, rfl⟩
  | 8, _, _ =>
    show Calls Tryz.prog 245 #[.pointer r, .iface 121 v] w fun e w' => e = .returned (.bool true) ∧ w' = w
    have t8 : ∀ w, (Instr.typeAssert (.iface 121 v) 77 121 true).run Tryz.prog w = .ok (.tuple #[v, .bool true]) w := fun _ => by kernel_rfl
    go_enter Tryz.func245, Tryz.ntmps245
    go_wp2_with (fail)
    go_ret
    exact ⟨rfl, rfl⟩
  | 9, _, _ =>
    show Calls Tryz.prog 245 #[.pointer r, .iface 123 v] w fun e w' => e = .returned (.bool false) ∧ w' = w
    have t8 : ∀ w, (Instr.typeAssert (.iface 123 v) 77 121 true).run Tryz.prog w = .ok (.tuple #[.pointer none, .bool false]) w := fun _ => by kernel_rfl
    have t4 : ∀ w, (Instr.typeAssert (.iface 123 v) 77 113 true).run Tryz.prog w = .ok (.tuple #[.pointer none, .bool false]) w := fun _ => by kernel_rfl
    go_enter Tryz.func245, Tryz.ntmps245
    go_wp2_with (fail)
    go_ret
    exact ⟨rfl, rfl⟩
  | 10, _, _ =>
    show Calls Tryz.prog 245 #[.pointer r, .iface 125 v] w fun e w' => e = .returned (.bool false) ∧ w' = w
    have t8 : ∀ w, (Instr.typeAssert (.iface 125 v) 77 121 true).run Tryz.prog w = .ok (.tuple #[.pointer none, .bool false]) w := fun _ => by kernel_rfl
    have t4 : ∀ w, (Instr.typeAssert (.iface 125 v) 77 113 true).run Tryz.prog w = .ok (.tuple #[.pointer none, .bool false]) w := fun _ => by kernel_rfl
    go_enter Tryz.func245, Tryz.ntmps245
    go_wp2_with (fail)
    go_ret
    exact ⟨rfl, rfl⟩
  | 11, _, _ =>
    show Calls Tryz.prog 245 #[.pointer r, .iface 127 v] w fun e w' => e = .returned (.bool false) ∧ w' = w
    have t8 : ∀ w, (Instr.typeAssert (.iface 127 v) 77 121 true).run Tryz.prog w = .ok (.tuple #[.pointer none, .bool false]) w := fun _ => by kernel_rfl
    have t4 : ∀ w, (Instr.typeAssert (.iface 127 v) 77 113 true).run Tryz.prog w = .ok (.tuple #[.pointer none, .bool false]) w := fun _ => by kernel_rfl
    go_enter Tryz.func245, Tryz.ntmps245
    go_wp2_with (fail)
    go_ret
    exact ⟨rfl, rfl⟩
set_option maxRecDepth 100000 in
theorem is_9 (j : Nat) (h1 : 1 ≤ j) (h2 : j ≤ 11) (r : Option Addr) (v : Value) (w : World) : Calls Tryz.prog 247 #[.pointer r, .iface (ptT j) v] w fun e w' => e = .returned (.bool (isB 9 j)) ∧ w' = w := by
  match j, h1, h2 with
  | 1, _, _ =>
    show Calls Tryz.prog 247 #[.pointer r, .iface 106 v] w fun e w' => e = .returned (.bool false) ∧ w' = w
    have t9 : ∀ w, (Instr.typeAssert (.iface 106 v) 77 123 true).run Tryz.prog w = .ok (.tuple #[.pointer none, .bool false]) w := fun _ => by kernel_rfl
    go_enter Tryz.func247, Tryz.ntmps247
    go_wp2_with (fail)
    go_ret
    exact ⟨rfl, rfl⟩
  | 2, _, _ =>
    show Calls Tryz.prog 247 #[.pointer r, .iface 109 v] w fun e w' => e = .returned (.bool false) ∧ w' = w
    have t9 : ∀ w, (Instr.typeAssert (.iface 109 v) 77 123 true).run Tryz.prog w = .ok (.tuple #[.pointer none, .bool false]) w := fun _ => by kernel_rfl
    go_enter Tryz.func247, Tryz.ntmps247
    go_wp2_with (fail)
    go_ret
    exact ⟨rfl, rfl⟩
  | 3, _, _ =>
    show Calls Tryz.prog 247 #[.pointer r, .iface 111 v] w fun e w' => e = .returned (.bool false) ∧ w' = w
    have t9 : ∀ w, (Instr.typeAssert (.iface 111 v) 77 123 true).run Tryz.prog w = .ok (.tuple #[.pointer none, .bool false]) w := fun _ => by kernel_rfl
    go_enter Tryz.func247, Tryz.ntmps247
    go_wp2_with (fail)
    go_ret
    exact ⟨rfl, rfl⟩
  | 4, _, _ =>
    show Calls Tryz.prog 247 #[.pointer r, .iface 113 v] w fun e w' => e = .returned (.bool false) ∧ w' = w
    have t9 : ∀ w, (Instr.typeAssert (.iface 113 v) 77 123 true).run Tryz.prog w = .ok (.tuple #[.pointer none, .bool false]) w := fun _ => by kernel_rfl
    go_enter Tryz.func247, Tryz.ntmps247
    go_wp2_with (fail)
    go_ret
    exact ⟨rfl, rfl⟩
  | 5, _, _ =>
    show Calls Tryz.prog 247 #[.pointer r, .iface 115 v] w fun e w' => e = .returned (.bool false) ∧ w' = w
    have t9 : ∀ w, (Instr.typeAssert (.iface 115 v) 77 123 true).run Tryz.prog w = .ok (.tuple #[.pointer none, .bool false]) w := fun _ => by kernel_rfl
    go_enter Tryz.func247, Tryz.ntmps247
    go_wp2_with (fail)
    go_ret
    exact ⟨rfl, rfl⟩
  | 6, _, _ =>
    show Calls Tryz.prog 247 #[.pointer r, .iface 117 v] w fun e w' => e = .returned (.bool false) ∧ w' = w
    have t9 : ∀ w, (Instr.typeAssert (.iface 117 v) 77 123 true).run Tryz.prog w = .ok (.tuple #[.pointer none, .bool false]) w := fun _ => by kernel_rfl
    go_enter Tryz.func247, Tryz.ntmps247
    go_wp2_with (fail)
    go_ret
    exact ⟨rfl, rfl⟩
  | 7, _, _ =>
    show Calls Tryz.prog 247 #[.pointer r, .iface 119 v] w fun e w' => e = .returned (.bool false) ∧ w' = w
    have t9 : ∀ w, (Instr.typeAssert (.iface 119 v) 77 123 true).run Tryz.prog w = .ok (.tuple #[.pointer none, .bool false]) w := fun _ => by kernel_rfl
    go_enter Tryz.func247, Tryz.ntmps247
    go_wp2_with (fail)
    go_ret
    exact ⟨rfl, rfl⟩
  | 8, _, _ =>
    show Calls Tryz.prog 247 #[.pointer r, .iface 121 v] w fun e w' => e = .returned (.bool false) ∧ w' = w
    have t9 : ∀ w, (Instr.typeAssert (.iface 121 v) 77 123 true).run Tryz.prog w = .ok (.tuple #[.pointer none, .bool false]) w := fun _ => by kernel_rfl
    go_enter Tryz.func247, Tryz.ntmps247
    go_wp2_with (fail)
    go_ret
    exact ⟨rfl, rfl⟩
  | 9, _, _ =>
    show Calls Tryz.prog 247 #[.pointer r, .iface 123 v] w fun e w' => e = .returned (.bool true) ∧ w' = w
    have t9 : ∀ w, (Instr.typeAssert (.iface 123 v) 77 123 true).run Tryz.prog w = .ok (.tuple #[v, .bool true]) w := fun _ => by kernel_rfl
    go_enter Tryz.func247, Tryz.ntmps247
    go_wp2_with (fail)
    go_ret
    exact ⟨rfl, rfl⟩
  | 10, _, _ =>
    show Calls Tryz.prog 247 #[.pointer r, .iface 125 v] w fun e w' => e = .returned (.bool false) ∧ w' = w
    have t9 : ∀ w, (Instr.typeAssert (.iface 125 v) 77 123 true).run Tryz.prog w = .ok (.tuple #[.pointer none, .bool false]) w := fun _ => by kernel_rfl
    go_enter Tryz.func247, Tryz.ntmps247
    go_wp2_with (fail)
    go_ret
    exact ⟨rfl, rfl⟩
  | 11, _, _ =>
    show Calls Tryz.prog 247 #[.pointer r, .iface 127 v] w fun e w' => e = .returned (.bool false) ∧ w' = w
    have t9 : ∀ w, (Instr.typeAssert (.iface 127 v) 77 123 true).run Tryz.prog w = .ok (.tuple #[.pointer none, .bool false]) w := fun _ => by kernel_rfl
    go_enter Tryz.func247, Tryz.ntmps247
    go_wp2_with (fail)
    go_ret
    exact ⟨rfl, rfl⟩
set_option maxRecDepth 100000 in
theorem is_10 (j : Nat) (h1 : 1 ≤ j) (h2 : j ≤ 11) (r : Option Addr) (v : Value) (w : World) : Calls Tryz.prog 249 #[.pointer r, .iface (ptT j) v] w fun e w' => e = .returned (.bool (isB 10 j)) ∧ w' = w := by
  match j, h1, h2 with
  | 1, _, _ =>
    show Calls Tryz.prog 249 #[.pointer r, .iface 106 v] w fun e w' => e = .returned (.bool false) ∧ w' = w
    have t10 : ∀ w, (Instr.typeAssert (.iface 106 v) 77 125 true).run Tryz.prog w = .ok (.tuple #[.pointer none, .bool false]) w := fun _ => by kernel_rfl
    go_enter Tryz.func249, Tryz.ntmps249
    go_wp2_with (fail)
    go_ret
    exact ⟨rfl, rfl⟩
  | 2, _, _ =>
    show Calls Tryz.prog 249 #[.pointer r, .iface 109 v] w fun e w' => e = .returned (.bool false) ∧ w' = w
    have t10 : ∀ w, (Instr.typeAssert (.iface 109 v) 77 125 true).run Tryz.prog w = .ok (.tuple #[.pointer none, .bool false]) w := fun _ => by kernel_rfl
    go_enter Tryz.func249, Tryz.ntmps249
    go_wp2_with (fail)
    go_ret
    exact ⟨rfl, rfl⟩
  | 3, _, _ =>
    show Calls Tryz.prog 249 #[.pointer r, .iface 111 v] w fun e w' => e = .returned (.bool false) ∧ w' = w
    have t10 : ∀ w, (Instr.typeAssert (.iface 111 v) 77 125 true).run Tryz.prog w = .ok (.tuple #[.pointer none, .bool false]) w := fun _ => by kernel_rfl
    go_enter Tryz.func249, Tryz.ntmps249
    go_wp2_with (fail)
    go_ret
    exact ⟨rfl, rfl⟩
  | 4, _, _ =>
    show Calls Tryz.prog 249 #[.pointer r, .iface 113 v] w fun e w' => e = .returned (.bool false) ∧ w' = w
    have t10 : ∀ w, (Instr.typeAssert (.iface 113 v) 77 125 true).run Tryz.prog w = .ok (.tuple #[.pointer none, .bool false]) w := fun _ => by kernel_rfl
    go_enter Tryz.func249, Tryz.ntmps249
    go_wp2_with (fail)
    go_ret
    exact ⟨rfl, rfl⟩
  | 5, _, _ =>
    show Calls Tryz.prog 249 #[.pointer r, .iface 115 v] w fun e w' => e = .returned (.bool false) ∧ w' = w
    have t10 : ∀ w, (Instr.typeAssert (.iface 115 v) 77 125 true).run Tryz.prog w = .ok (.tuple #[.pointer none, .bool false]) w := fun _ => by kernel_rfl
    go_enter Tryz.func249, Tryz.ntmps249
    go_wp2_with (fail)
    go_ret
    exact ⟨rfl, rfl⟩
  | 6, _, _ =>
    show Calls Tryz.prog 249 #[.pointer r, .iface 117 v] w fun e w' => e = .returned (.bool false) ∧ w' = w
    have t10 : ∀ w, (Instr.typeAssert (.iface 117 v) 77 125 true).run Tryz.prog w = .ok (.tuple #[.pointer none, .bool false]) w := fun _ => by kernel_rfl
    go_enter Tryz.func249, Tryz.ntmps249
    go_wp2_with (fail)
    go_ret
    exact ⟨rfl, rfl⟩
  | 7, _, _ =>
    show Calls Tryz.prog 249 #[.pointer r, .iface 119 v] w fun e w' => e = .returned (.bool false) ∧ w' = w
    have t10 : ∀ w, (Instr.typeAssert (.iface 119 v) 77 125 true).run Tryz.prog w = .ok (.tuple #[.pointer none, .bool false]) w := fun _ => by kernel_rfl
    go_enter Tryz.func249, Tryz.ntmps249
    go_wp2_with (fail)
    go_ret
    exact ⟨rfl, rfl⟩
  | 8, _, _ =>
    show Calls Tryz.prog 249 #[.pointer r, .iface 121 v] w fun e w' => e = .returned (.bool false) ∧ w' = w
    have t10 : ∀ w, (Instr.typeAssert (.iface 121 v) 77 125 true).run Tryz.prog w = .ok (.tuple #[.pointer none, .bool false]) w := fun _ => by kernel_rfl
    go_enter Tryz.func249, Tryz.ntmps249
    go_wp2_with (fail)
    go_ret
    exact ⟨rfl, rfl⟩
  | 9, _, _ =>
    show Calls Tryz.prog 249 #[.pointer r, .iface 123 v] w fun e w' => e = .returned (.bool false) ∧ w' = w
    have t10 : ∀ w, (Instr.typeAssert (.iface 123 v) 77 125 true).run Tryz.prog w = .ok (.tuple #[.pointer none, .bool false]) w := fun _ => by kernel_rfl
    go_enter Tryz.func249, Tryz.ntmps249
    go_wp2_with (fail)
    go_ret
    exact ⟨rfl, rfl⟩
  | 10, _, _ =>
    show Calls Tryz.prog 249 #[.pointer r, .iface 125 v] w fun e w' => e = .returned (.bool true) ∧ w' = w
    have t10 : ∀ w, (Instr.typeAssert (.iface 125 v) 77 125 true).run Tryz.prog w = .ok (.tuple #[v, .bool true]) w := fun _ => by kernel_rfl
    go_enter Tryz.func249, Tryz.ntmps249
    go_wp2_with (fail)
    go_ret
    exact ⟨rfl, rfl⟩
  | 11, _, _ =>
    show Calls Tryz.prog 249 #[.pointer r, .iface 127 v] w fun e w' => e = .returned (.bool false) ∧ w' = w
    have t10 : ∀ w, (Instr.typeAssert (.iface 127 v) 77 125 true).run Tryz.prog w = .ok (.tuple #[.pointer none, .bool false]) w := fun _ => by kernel_rfl
    go_enter Tryz.func249, Tryz.ntmps249
    go_wp2_with (fail)
    go_ret
    exact ⟨rfl, rfl⟩
set_option maxRecDepth 100000 in
theorem is_11 (j : Nat) (h1 : 1 ≤ j) (h2 : j ≤ 11) (r : Option Addr) (v : Value) (w : World) : Calls Tryz.prog 251 #[.pointer r, .iface (ptT j) v] w fun e w' => e = .returned (.bool (isB 11 j)) ∧ w' = w := by
  match j, h1, h2 with
  | 1, _, _ =>
    show Calls Tryz.prog 251 #[.pointer r, .iface 106 v] w fun e w' => e = .returned (.bool false) ∧ w' = w
    have t11 : ∀ w, (Instr.typeAssert (.iface 106 v) 77 127 true).run Tryz.prog w = .ok (.tuple #[.pointer none, .bool false]) w := fun _ => by kernel_rfl
    have t10 : ∀ w, (Instr.typeAssert (.iface 106 v) 77 125 true).run Tryz.prog w = .ok (.tuple #[.pointer none, .bool false]) w := fun _ => by kernel_rfl
    go_enter Tryz.func251, Tryz.ntmps251
    go_wp2_with (fail)
    go_ret
    exact ⟨rfl, rfl⟩
  | 2, _, _ =>
    show Calls Tryz.prog 251 #[.pointer r, .iface 109 v] w fun e w' => e = .returned (.bool false) ∧ w' = w
    have t11 : ∀ w, (Instr.typeAssert (.iface 109 v) 77 127 true).run Tryz.prog w = .ok (.tuple #[.pointer none, .bool false]) w := fun _ => by kernel_rfl
    have t10 : ∀ w, (Instr.typeAssert (.iface 109 v) 77 125 true).run Tryz.prog w = .ok (.tuple #[.pointer none, .bool false]) w := fun _ => by kernel_rfl
    go_enter Tryz.func251, Tryz.ntmps251
    go_wp2_with (fail)
    go_ret
    exact ⟨rfl, rfl⟩
  | 3, _, _ =>
    show Calls Tryz.prog 251 #[.pointer r, .iface 111 v] w fun e w' => e = .returned (.bool false) ∧ w' = w
    have t11 : ∀ w, (Instr.typeAssert (.iface 111 v) 77 127 true).run Tryz.prog w = .ok (.tuple #[.pointer none, .bool false]) w := fun _ => by kernel_rfl
    have t10 : ∀ w, (Instr.typeAssert (.iface 111 v) 77 125 true).run Tryz.prog w = .ok (.tuple #[.pointer none, .bool false]) w := fun _ => by kernel_rfl
    go_enter Tryz.func251, Tryz.ntmps251
    go_wp2_with (fail)
    go_ret
    exact ⟨rfl, rfl⟩
  | 4, _, _ =>
    show Calls Tryz.prog 251 #[.pointer r, .iface 113 v] w fun e w' => e = .returned (.bool false) ∧ w' = w
    have t11 : ∀ w, (Instr.typeAssert (.iface 113 v) 77 127 true).run Tryz.prog w = .ok (.tuple #[.pointer none, .bool false]) w := fun _ => by kernel_rfl
    have t10 : ∀ w, (Instr.typeAssert (.iface 113 v) 77 125 true).run Tryz.prog w = .ok (.tuple #[.pointer none, .bool false]) w := fun _ => by kernel_rfl
    go_enter Tryz.func251, Tryz.ntmps251
    go_wp2_with (fail)
    go_ret
    exact ⟨rfl, rfl⟩
  | 5, _, _ =>
    show Calls Tryz.prog 251 #[.pointer r, .iface 115 v] w fun e w' => e = .returned (.bool false) ∧ w' = w
    have t11 : ∀ w, (Instr.typeAssert (.iface 115 v) 77 127 true).run Tryz.prog w = .ok (.tuple #[.pointer none, .bool false]) w := fun _ => by kernel_rfl
    have t10 : ∀ w, (Instr.typeAssert (.iface 115 v) 77 125 true).run Tryz.prog w = .ok (.tuple #[.pointer none, .bool false]) w := fun _ => by kernel_rfl
    go_enter Tryz.func251, Tryz.ntmps251
    go_wp2_with (fail)
    go_ret
    exact ⟨rfl, rfl⟩
  | 6, _, _ =>
    show Calls Tryz.prog 251 #[.pointer r, .iface 117 v] w fun e w' => e = .returned (.bool false) ∧ w' = w
    have t11 : ∀ w, (Instr.typeAssert (.iface 117 v) 77 127 true).run Tryz.prog w = .ok (.tuple #[.pointer none, .bool false]) w := fun _ => by kernel_rfl
    have t10 : ∀ w, (Instr.typeAssert (.iface 117 v) 77 125 true).run Tryz.prog w = .ok (.tuple #[.pointer none, .bool false]) w := fun _ => by kernel_rfl
    go_enter Tryz.func251, Tryz.ntmps251
    go_wp2_with (fail)
    go_ret
    exact ⟨rfl, rfl⟩
  | 7, _, _ =>
    show Calls Tryz.prog 251 #[.pointer r, .iface 119 v] w fun e w' => e = .returned (.bool false) ∧ w' = w
    have t11 : ∀ w, (Instr.typeAssert (.iface 119 v) 77 127 true).run Tryz.prog w = .ok (.tuple #[.pointer none, .bool false]) w := fun _ => by kernel_rfl
    have t10 : ∀ w, (Instr.typeAssert (.iface 119 v) 77 125 true).run Tryz.prog w = .ok (.tuple #[.pointer none, .bool false]) w := fun _ => by kernel_rfl
    go_enter Tryz.func251, Tryz.ntmps251
    go_wp2_with (fail)
    go_ret
    exact ⟨rfl, rfl⟩
  | 8, _, _ =>
    show Calls Tryz.prog 251 #[.pointer r, .iface 121 v] w fun e w' => e = .returned (.bool false) ∧ w' = w
    have t11 : ∀ w, (Instr.typeAssert (.iface 121 v) 77 127 true).run Tryz.prog w = .ok (.tuple #[.pointer none, .bool false]) w := fun _ => by kernel_rfl
    have t10 : ∀ w, (Instr.typeAssert (.iface 121 v) 77 125 true).run Tryz.prog w = .ok (.tuple #[.pointer none, .bool false]) w := fun _ => by kernel_rfl
    go_enter Tryz.func251, Tryz.ntmps251
    go_wp2_with (fail)
    go_ret
    exact ⟨rfl, rfl⟩
  | 9, _, _ =>
    show Calls Tryz.prog 251 #[.pointer r, .iface 123 v] w fun e w' => e = .returned (.bool false) ∧ w' = w
    have t11 : ∀ w, (Instr.typeAssert (.iface 123 v) 77 127 true).run Tryz.prog w = .ok (.tuple #[.pointer none, .bool false]) w := fun _ => by kernel_rfl
    have t10 : ∀ w, (Instr.typeAssert (.iface 123 v) 77 125 true).run Tryz.prog w = .ok (.tuple #[.pointer none, .bool false]) w := fun _ => by kernel_rfl
    go_enter Tryz.func251, Tryz.ntmps251
    go_wp2_with (fail)
    go_ret
    exact ⟨rfl, rfl⟩
  | 10, _, _ =>
    show Calls Tryz.prog 251 #[.pointer r, .iface 125 v] w fun e w' => e = .returned (.bool true) ∧ w' = w
    have t11 : ∀ w, (Instr.typeAssert (.iface 125 v) 77 127 true).run Tryz.prog w = .ok (.tuple #[.pointer none, .bool false]) w := fun _ => by kernel_rfl
    have t10 : ∀ w, (Instr.typeAssert (.iface 125 v) 77 125 true).run Tryz.prog w = .ok (.tuple #[v, .bool true]) w := fun _ => by kernel_rfl
    go_enter Tryz.func251, Tryz.ntmps251
    go_wp2_with (fail)
    go_ret
    exact ⟨rfl, rfl⟩
  | 11, _, _ =>
    show Calls Tryz.prog 251 #[.pointer r, .iface 127 v] w fun e w' => e = .returned (.bool true) ∧ w' = w
    have t11 : ∀ w, (Instr.typeAssert (.iface 127 v) 77 127 true).run Tryz.prog w = .ok (.tuple #[v, .bool true]) w := fun _ => by kernel_rfl
    go_enter Tryz.func251, Tryz.ntmps251
    go_wp2_with (fail)
    go_ret
    exact ⟨rfl, rfl⟩
set_option maxRecDepth 100000 in
theorem errorOf_1 (w : World) : Calls Tryz.prog 28 #[.int .i64 1] w fun e w' => e = .returned (.iface 106 (.pointer (some ⟨w.heap.size, 0, none⟩))) ∧ w' = w.alloc (.cells #[.string ⟨#[]⟩] 108) := by
  go_enter Tryz.func28, Tryz.ntmps28
  go_wp2_with (fail)
  go_ret
  exact ⟨rfl, rfl⟩
set_option maxRecDepth 100000 in
theorem errorOf_2 (w : World) : Calls Tryz.prog 28 #[.int .i64 2] w fun e w' => e = .returned (.iface 109 (.pointer (some ⟨w.heap.size, 0, none⟩))) ∧ w' = w.alloc (.cells #[.string ⟨#[]⟩] 110) := by
  go_enter Tryz.func28, Tryz.ntmps28
  go_wp2_with (fail)
  go_ret
  exact ⟨rfl, rfl⟩
set_option maxRecDepth 100000 in
theorem errorOf_3 (w : World) : Calls Tryz.prog 28 #[.int .i64 3] w fun e w' => e = .returned (.iface 111 (.pointer (some ⟨w.heap.size, 0, none⟩))) ∧ w' = w.alloc (.cells #[.string ⟨#[]⟩] 112) := by
  go_enter Tryz.func28, Tryz.ntmps28
  go_wp2_with (fail)
  go_ret
  exact ⟨rfl, rfl⟩
set_option maxRecDepth 100000 in
theorem errorOf_4 (w : World) : Calls Tryz.prog 28 #[.int .i64 4] w fun e w' => e = .returned (.iface 113 (.pointer (some ⟨w.heap.size, 0, none⟩))) ∧ w' = w.alloc (.cells #[.string ⟨#[]⟩] 114) := by
  go_enter Tryz.func28, Tryz.ntmps28
  go_wp2_with (fail)
  go_ret
  exact ⟨rfl, rfl⟩
set_option maxRecDepth 100000 in
theorem errorOf_5 (w : World) : Calls Tryz.prog 28 #[.int .i64 5] w fun e w' => e = .returned (.iface 115 (.pointer (some ⟨w.heap.size, 0, none⟩))) ∧ w' = w.alloc (.cells #[.string ⟨#[]⟩] 116) := by
  go_enter Tryz.func28, Tryz.ntmps28
  go_wp2_with (fail)
  go_ret
  exact ⟨rfl, rfl⟩
set_option maxRecDepth 100000 in
theorem errorOf_6 (w : World) : Calls Tryz.prog 28 #[.int .i64 6] w fun e w' => e = .returned (.iface 117 (.pointer (some ⟨w.heap.size, 0, none⟩))) ∧ w' = w.alloc (.cells #[.string ⟨#[]⟩] 118) := by
  go_enter Tryz.func28, Tryz.ntmps28
  go_wp2_with (fail)
  go_ret
  exact ⟨rfl, rfl⟩
set_option maxRecDepth 100000 in
theorem errorOf_7 (w : World) : Calls Tryz.prog 28 #[.int .i64 7] w fun e w' => e = .returned (.iface 119 (.pointer (some ⟨w.heap.size, 0, none⟩))) ∧ w' = w.alloc (.cells #[.string ⟨#[]⟩] 120) := by
  go_enter Tryz.func28, Tryz.ntmps28
  go_wp2_with (fail)
  go_ret
  exact ⟨rfl, rfl⟩
set_option maxRecDepth 100000 in
theorem errorOf_8 (w : World) : Calls Tryz.prog 28 #[.int .i64 8] w fun e w' => e = .returned (.iface 121 (.pointer (some ⟨w.heap.size, 0, none⟩))) ∧ w' = w.alloc (.cells #[.string ⟨#[]⟩] 122) := by
  go_enter Tryz.func28, Tryz.ntmps28
  go_wp2_with (fail)
  go_ret
  exact ⟨rfl, rfl⟩
set_option maxRecDepth 100000 in
theorem errorOf_9 (w : World) : Calls Tryz.prog 28 #[.int .i64 9] w fun e w' => e = .returned (.iface 123 (.pointer (some ⟨w.heap.size, 0, none⟩))) ∧ w' = w.alloc (.cells #[.string ⟨#[]⟩] 124) := by
  go_enter Tryz.func28, Tryz.ntmps28
  go_wp2_with (fail)
  go_ret
  exact ⟨rfl, rfl⟩
set_option maxRecDepth 100000 in
theorem errorOf_10 (w : World) : Calls Tryz.prog 28 #[.int .i64 10] w fun e w' => e = .returned (.iface 125 (.pointer (some ⟨w.heap.size, 0, none⟩))) ∧ w' = w.alloc (.cells #[.string ⟨#[]⟩] 126) := by
  go_enter Tryz.func28, Tryz.ntmps28
  go_wp2_with (fail)
  go_ret
  exact ⟨rfl, rfl⟩
set_option maxRecDepth 100000 in
theorem errorOf_11 (w : World) : Calls Tryz.prog 28 #[.int .i64 11] w fun e w' => e = .returned (.iface 127 (.pointer (some ⟨w.heap.size, 0, none⟩))) ∧ w' = w.alloc (.cells #[.string ⟨#[]⟩] 128) := by
  go_enter Tryz.func28, Tryz.ntmps28
  go_wp2_with (fail)
  go_ret
  exact ⟨rfl, rfl⟩
theorem errorOf_any (j : Nat) (h1 : 1 ≤ j) (h2 : j ≤ 11) (w : World) : Calls Tryz.prog 28 #[.int .i64 j] w fun e w' => e = .returned (.iface (ptT j) (.pointer (some ⟨w.heap.size, 0, none⟩))) ∧ Below w.heap.size w w' := by
  match j, h1, h2 with
  | 1, _, _ => exact (errorOf_1 w).mono fun e w' ⟨he, hw⟩ => ⟨he, by rw [hw]; exact (Below.refl _ _).alloc (Nat.le_refl _) _⟩
  | 2, _, _ => exact (errorOf_2 w).mono fun e w' ⟨he, hw⟩ => ⟨he, by rw [hw]; exact (Below.refl _ _).alloc (Nat.le_refl _) _⟩
  | 3, _, _ => exact (errorOf_3 w).mono fun e w' ⟨he, hw⟩ => ⟨he, by rw [hw]; exact (Below.refl _ _).alloc (Nat.le_refl _) _⟩
  | 4, _, _ => exact (errorOf_4 w).mono fun e w' ⟨he, hw⟩ => ⟨he, by rw [hw]; exact (Below.refl _ _).alloc (Nat.le_refl _) _⟩
  | 5, _, _ => exact (errorOf_5 w).mono fun e w' ⟨he, hw⟩ => ⟨he, by rw [hw]; exact (Below.refl _ _).alloc (Nat.le_refl _) _⟩
  | 6, _, _ => exact (errorOf_6 w).mono fun e w' ⟨he, hw⟩ => ⟨he, by rw [hw]; exact (Below.refl _ _).alloc (Nat.le_refl _) _⟩
  | 7, _, _ => exact (errorOf_7 w).mono fun e w' ⟨he, hw⟩ => ⟨he, by rw [hw]; exact (Below.refl _ _).alloc (Nat.le_refl _) _⟩
  | 8, _, _ => exact (errorOf_8 w).mono fun e w' ⟨he, hw⟩ => ⟨he, by rw [hw]; exact (Below.refl _ _).alloc (Nat.le_refl _) _⟩
  | 9, _, _ => exact (errorOf_9 w).mono fun e w' ⟨he, hw⟩ => ⟨he, by rw [hw]; exact (Below.refl _ _).alloc (Nat.le_refl _) _⟩
  | 10, _, _ => exact (errorOf_10 w).mono fun e w' ⟨he, hw⟩ => ⟨he, by rw [hw]; exact (Below.refl _ _).alloc (Nat.le_refl _) _⟩
  | 11, _, _ => exact (errorOf_11 w).mono fun e w' ⟨he, hw⟩ => ⟨he, by rw [hw]; exact (Below.refl _ _).alloc (Nat.le_refl _) _⟩
set_option maxRecDepth 100000 in
set_option maxHeartbeats 1000000 in
theorem errorIs_1 (j : Nat) (h1 : 1 ≤ j) (h2 : j ≤ 11) (w : World) : Calls Tryz.prog 18 #[.int .i64 1, .int .i64 j] w fun e w' => e = .returned (.bool (isB 1 j)) ∧ Below w.heap.size w w' := by
  obtain ⟨t, ht⟩ : ∃ t, t = ptT j := ⟨_, rfl⟩
  obtain ⟨q, hq⟩ : ∃ q, q = isB 1 j := ⟨_, rfl⟩
  have HE : Hid (∀ W, Calls Tryz.prog 28 #[.int .i64 j] W fun e w' => e = .returned (.iface t (.pointer (some ⟨W.heap.size, 0, none⟩))) ∧ Below W.heap.size W w') := by rw [ht]; exact errorOf_any j h1 h2
  have HI : Hid (∀ r v W, Calls Tryz.prog 231 #[.pointer r, .iface t v] W fun e w' => e = .returned (.bool q) ∧ Below W.heap.size W w') := by rw [ht, hq]; exact fun r v W => (is_1 j h1 h2 r v W).mono fun _ _ ⟨he, hw⟩ => ⟨he, by rw [hw]; exact Below.refl _ _⟩
  have HE1 : Hid (∀ W, Calls Tryz.prog 28 #[.int .i64 1] W fun e w' => e = .returned (.iface 106 (.pointer (some ⟨W.heap.size, 0, none⟩))) ∧ Below W.heap.size W w') := errorOf_any 1 (by decide) (by decide)
  have tis : ∀ (v : Value) (w : World), (Instr.typeAssert (.iface 106 v) 77 81 true).run Tryz.prog w = .ok (.tuple #[.iface 106 v, .bool true]) w := fun _ _ => by kernel_rfl
  have nilA : ∀ (a : Addr) (w : World), (nilAhead 499 106 (.pointer (some a)) "Is").run Tryz.prog w = .ok (some false) w := fun _ _ => by kernel_rfl
  have meth : ∀ (a : Addr) (w : World), (method 499 106 (.pointer (some a)) "Is").run Tryz.prog w = .ok (231, .pointer (some a)) w := fun _ _ => by kernel_rfl
  rw [← hq]
  clear hq ht
  go_enter Tryz.func18, Tryz.ntmps18
  go_wp2_with (fail)
  refine (HE1.out w).mono ?_
  rintro e w1 ⟨rfl, hb1⟩
  have HB1 := Lib.hid hb1
  have hB0 : Below w.heap.size w w1.drew := hb1.drew
  clear hb1
  go_wp2_with (fail)
  go_region_held3 (fun W' => Below w.heap.size w W') (first | exact hB0 | assumption) (first | (go_at_call 28; go_must (go_fit (HE.out _)); rintro e w2 ⟨rfl, hb2⟩; have hbb := below_st (by assumption) (Nat.le_refl _) hb2) | (go_at_call 231; go_must (go_fit (HI.out _ _ _)); rintro e w2 ⟨rfl, hb2⟩; have hbc := below_st (by assumption) (Nat.le_refl _) hb2))
  all_goals
    have HBC := Lib.hid hbc
    clear hbc hbb hB0
    go_wp2_with (fail)
    go_ret
    exact ⟨rfl, HBC.out⟩
set_option maxRecDepth 100000 in
set_option maxHeartbeats 1000000 in
theorem errorIs_2 (j : Nat) (h1 : 1 ≤ j) (h2 : j ≤ 11) (w : World) : Calls Tryz.prog 18 #[.int .i64 2, .int .i64 j] w fun e w' => e = .returned (.bool (isB 2 j)) ∧ Below w.heap.size w w' := by
  obtain ⟨t, ht⟩ : ∃ t, t = ptT j := ⟨_, rfl⟩
  obtain ⟨q, hq⟩ : ∃ q, q = isB 2 j := ⟨_, rfl⟩
  have HE : Hid (∀ W, Calls Tryz.prog 28 #[.int .i64 j] W fun e w' => e = .returned (.iface t (.pointer (some ⟨W.heap.size, 0, none⟩))) ∧ Below W.heap.size W w') := by rw [ht]; exact errorOf_any j h1 h2
  have HI : Hid (∀ r v W, Calls Tryz.prog 233 #[.pointer r, .iface t v] W fun e w' => e = .returned (.bool q) ∧ Below W.heap.size W w') := by rw [ht, hq]; exact fun r v W => (is_2 j h1 h2 r v W).mono fun _ _ ⟨he, hw⟩ => ⟨he, by rw [hw]; exact Below.refl _ _⟩
  have HE1 : Hid (∀ W, Calls Tryz.prog 28 #[.int .i64 2] W fun e w' => e = .returned (.iface 109 (.pointer (some ⟨W.heap.size, 0, none⟩))) ∧ Below W.heap.size W w') := errorOf_any 2 (by decide) (by decide)
  have tis : ∀ (v : Value) (w : World), (Instr.typeAssert (.iface 109 v) 77 81 true).run Tryz.prog w = .ok (.tuple #[.iface 109 v, .bool true]) w := fun _ _ => by kernel_rfl
  have nilA : ∀ (a : Addr) (w : World), (nilAhead 499 109 (.pointer (some a)) "Is").run Tryz.prog w = .ok (some false) w := fun _ _ => by kernel_rfl
  have meth : ∀ (a : Addr) (w : World), (method 499 109 (.pointer (some a)) "Is").run Tryz.prog w = .ok (233, .pointer (some a)) w := fun _ _ => by kernel_rfl
  rw [← hq]
  clear hq ht
  go_enter Tryz.func18, Tryz.ntmps18
  go_wp2_with (fail)
  refine (HE1.out w).mono ?_
  rintro e w1 ⟨rfl, hb1⟩
  have HB1 := Lib.hid hb1
  have hB0 : Below w.heap.size w w1.drew := hb1.drew
  clear hb1
  go_wp2_with (fail)
  go_region_held3 (fun W' => Below w.heap.size w W') (first | exact hB0 | assumption) (first | (go_at_call 28; go_must (go_fit (HE.out _)); rintro e w2 ⟨rfl, hb2⟩; have hbb := below_st (by assumption) (Nat.le_refl _) hb2) | (go_at_call 233; go_must (go_fit (HI.out _ _ _)); rintro e w2 ⟨rfl, hb2⟩; have hbc := below_st (by assumption) (Nat.le_refl _) hb2))
  all_goals
    have HBC := Lib.hid hbc
    clear hbc hbb hB0
    go_wp2_with (fail)
    go_ret
    exact ⟨rfl, HBC.out⟩
set_option maxRecDepth 100000 in
set_option maxHeartbeats 1000000 in
theorem errorIs_3 (j : Nat) (h1 : 1 ≤ j) (h2 : j ≤ 11) (w : World) : Calls Tryz.prog 18 #[.int .i64 3, .int .i64 j] w fun e w' => e = .returned (.bool (isB 3 j)) ∧ Below w.heap.size w w' := by
  obtain ⟨t, ht⟩ : ∃ t, t = ptT j := ⟨_, rfl⟩
  obtain ⟨q, hq⟩ : ∃ q, q = isB 3 j := ⟨_, rfl⟩
  have HE : Hid (∀ W, Calls Tryz.prog 28 #[.int .i64 j] W fun e w' => e = .returned (.iface t (.pointer (some ⟨W.heap.size, 0, none⟩))) ∧ Below W.heap.size W w') := by rw [ht]; exact errorOf_any j h1 h2
  have HI : Hid (∀ r v W, Calls Tryz.prog 235 #[.pointer r, .iface t v] W fun e w' => e = .returned (.bool q) ∧ Below W.heap.size W w') := by rw [ht, hq]; exact fun r v W => (is_3 j h1 h2 r v W).mono fun _ _ ⟨he, hw⟩ => ⟨he, by rw [hw]; exact Below.refl _ _⟩
  have HE1 : Hid (∀ W, Calls Tryz.prog 28 #[.int .i64 3] W fun e w' => e = .returned (.iface 111 (.pointer (some ⟨W.heap.size, 0, none⟩))) ∧ Below W.heap.size W w') := errorOf_any 3 (by decide) (by decide)
  have tis : ∀ (v : Value) (w : World), (Instr.typeAssert (.iface 111 v) 77 81 true).run Tryz.prog w = .ok (.tuple #[.iface 111 v, .bool true]) w := fun _ _ => by kernel_rfl
  have nilA : ∀ (a : Addr) (w : World), (nilAhead 499 111 (.pointer (some a)) "Is").run Tryz.prog w = .ok (some false) w := fun _ _ => by kernel_rfl
  have meth : ∀ (a : Addr) (w : World), (method 499 111 (.pointer (some a)) "Is").run Tryz.prog w = .ok (235, .pointer (some a)) w := fun _ _ => by kernel_rfl
  rw [← hq]
  clear hq ht
  go_enter Tryz.func18, Tryz.ntmps18
  go_wp2_with (fail)
  refine (HE1.out w).mono ?_
  rintro e w1 ⟨rfl, hb1⟩
  have HB1 := Lib.hid hb1
  have hB0 : Below w.heap.size w w1.drew := hb1.drew
  clear hb1
  go_wp2_with (fail)
  go_region_held3 (fun W' => Below w.heap.size w W') (first | exact hB0 | assumption) (first | (go_at_call 28; go_must (go_fit (HE.out _)); rintro e w2 ⟨rfl, hb2⟩; have hbb := below_st (by assumption) (Nat.le_refl _) hb2) | (go_at_call 235; go_must (go_fit (HI.out _ _ _)); rintro e w2 ⟨rfl, hb2⟩; have hbc := below_st (by assumption) (Nat.le_refl _) hb2))
  all_goals
    have HBC := Lib.hid hbc
    clear hbc hbb hB0
    go_wp2_with (fail)
    go_ret
    exact ⟨rfl, HBC.out⟩
set_option maxRecDepth 100000 in
set_option maxHeartbeats 1000000 in
theorem errorIs_4 (j : Nat) (h1 : 1 ≤ j) (h2 : j ≤ 11) (w : World) : Calls Tryz.prog 18 #[.int .i64 4, .int .i64 j] w fun e w' => e = .returned (.bool (isB 4 j)) ∧ Below w.heap.size w w' := by
  obtain ⟨t, ht⟩ : ∃ t, t = ptT j := ⟨_, rfl⟩
  obtain ⟨q, hq⟩ : ∃ q, q = isB 4 j := ⟨_, rfl⟩
  have HE : Hid (∀ W, Calls Tryz.prog 28 #[.int .i64 j] W fun e w' => e = .returned (.iface t (.pointer (some ⟨W.heap.size, 0, none⟩))) ∧ Below W.heap.size W w') := by rw [ht]; exact errorOf_any j h1 h2
  have HI : Hid (∀ r v W, Calls Tryz.prog 237 #[.pointer r, .iface t v] W fun e w' => e = .returned (.bool q) ∧ Below W.heap.size W w') := by rw [ht, hq]; exact fun r v W => (is_4 j h1 h2 r v W).mono fun _ _ ⟨he, hw⟩ => ⟨he, by rw [hw]; exact Below.refl _ _⟩
  have HE1 : Hid (∀ W, Calls Tryz.prog 28 #[.int .i64 4] W fun e w' => e = .returned (.iface 113 (.pointer (some ⟨W.heap.size, 0, none⟩))) ∧ Below W.heap.size W w') := errorOf_any 4 (by decide) (by decide)
  have tis : ∀ (v : Value) (w : World), (Instr.typeAssert (.iface 113 v) 77 81 true).run Tryz.prog w = .ok (.tuple #[.iface 113 v, .bool true]) w := fun _ _ => by kernel_rfl
  have nilA : ∀ (a : Addr) (w : World), (nilAhead 499 113 (.pointer (some a)) "Is").run Tryz.prog w = .ok (some false) w := fun _ _ => by kernel_rfl
  have meth : ∀ (a : Addr) (w : World), (method 499 113 (.pointer (some a)) "Is").run Tryz.prog w = .ok (237, .pointer (some a)) w := fun _ _ => by kernel_rfl
  rw [← hq]
  clear hq ht
  go_enter Tryz.func18, Tryz.ntmps18
  go_wp2_with (fail)
  refine (HE1.out w).mono ?_
  rintro e w1 ⟨rfl, hb1⟩
  have HB1 := Lib.hid hb1
  have hB0 : Below w.heap.size w w1.drew := hb1.drew
  clear hb1
  go_wp2_with (fail)
  go_region_held3 (fun W' => Below w.heap.size w W') (first | exact hB0 | assumption) (first | (go_at_call 28; go_must (go_fit (HE.out _)); rintro e w2 ⟨rfl, hb2⟩; have hbb := below_st (by assumption) (Nat.le_refl _) hb2) | (go_at_call 237; go_must (go_fit (HI.out _ _ _)); rintro e w2 ⟨rfl, hb2⟩; have hbc := below_st (by assumption) (Nat.le_refl _) hb2))
  all_goals
    have HBC := Lib.hid hbc
    clear hbc hbb hB0
    go_wp2_with (fail)
    go_ret
    exact ⟨rfl, HBC.out⟩
set_option maxRecDepth 100000 in
set_option maxHeartbeats 1000000 in
theorem errorIs_5 (j : Nat) (h1 : 1 ≤ j) (h2 : j ≤ 11) (w : World) : Calls Tryz.prog 18 #[.int .i64 5, .int .i64 j] w fun e w' => e = .returned (.bool (isB 5 j)) ∧ Below w.heap.size w w' := by
  obtain ⟨t, ht⟩ : ∃ t, t = ptT j := ⟨_, rfl⟩
  obtain ⟨q, hq⟩ : ∃ q, q = isB 5 j := ⟨_, rfl⟩
  have HE : Hid (∀ W, Calls Tryz.prog 28 #[.int .i64 j] W fun e w' => e = .returned (.iface t (.pointer (some ⟨W.heap.size, 0, none⟩))) ∧ Below W.heap.size W w') := by rw [ht]; exact errorOf_any j h1 h2
  have HI : Hid (∀ r v W, Calls Tryz.prog 239 #[.pointer r, .iface t v] W fun e w' => e = .returned (.bool q) ∧ Below W.heap.size W w') := by rw [ht, hq]; exact fun r v W => (is_5 j h1 h2 r v W).mono fun _ _ ⟨he, hw⟩ => ⟨he, by rw [hw]; exact Below.refl _ _⟩
  have HE1 : Hid (∀ W, Calls Tryz.prog 28 #[.int .i64 5] W fun e w' => e = .returned (.iface 115 (.pointer (some ⟨W.heap.size, 0, none⟩))) ∧ Below W.heap.size W w') := errorOf_any 5 (by decide) (by decide)
  have tis : ∀ (v : Value) (w : World), (Instr.typeAssert (.iface 115 v) 77 81 true).run Tryz.prog w = .ok (.tuple #[.iface 115 v, .bool true]) w := fun _ _ => by kernel_rfl
  have nilA : ∀ (a : Addr) (w : World), (nilAhead 499 115 (.pointer (some a)) "Is").run Tryz.prog w = .ok (some false) w := fun _ _ => by kernel_rfl
  have meth : ∀ (a : Addr) (w : World), (method 499 115 (.pointer (some a)) "Is").run Tryz.prog w = .ok (239, .pointer (some a)) w := fun _ _ => by kernel_rfl
  rw [← hq]
  clear hq ht
  go_enter Tryz.func18, Tryz.ntmps18
  go_wp2_with (fail)
  refine (HE1.out w).mono ?_
  rintro e w1 ⟨rfl, hb1⟩
  have HB1 := Lib.hid hb1
  have hB0 : Below w.heap.size w w1.drew := hb1.drew
  clear hb1
  go_wp2_with (fail)
  go_region_held3 (fun W' => Below w.heap.size w W') (first | exact hB0 | assumption) (first | (go_at_call 28; go_must (go_fit (HE.out _)); rintro e w2 ⟨rfl, hb2⟩; have hbb := below_st (by assumption) (Nat.le_refl _) hb2) | (go_at_call 239; go_must (go_fit (HI.out _ _ _)); rintro e w2 ⟨rfl, hb2⟩; have hbc := below_st (by assumption) (Nat.le_refl _) hb2))
  all_goals
    have HBC := Lib.hid hbc
    clear hbc hbb hB0
    go_wp2_with (fail)
    go_ret
    exact ⟨rfl, HBC.out⟩
set_option maxRecDepth 100000 in
set_option maxHeartbeats 1000000 in
theorem errorIs_6 (j : Nat) (h1 : 1 ≤ j) (h2 : j ≤ 11) (w : World) : Calls Tryz.prog 18 #[.int .i64 6, .int .i64 j] w fun e w' => e = .returned (.bool (isB 6 j)) ∧ Below w.heap.size w w' := by
  obtain ⟨t, ht⟩ : ∃ t, t = ptT j := ⟨_, rfl⟩
  obtain ⟨q, hq⟩ : ∃ q, q = isB 6 j := ⟨_, rfl⟩
  have HE : Hid (∀ W, Calls Tryz.prog 28 #[.int .i64 j] W fun e w' => e = .returned (.iface t (.pointer (some ⟨W.heap.size, 0, none⟩))) ∧ Below W.heap.size W w') := by rw [ht]; exact errorOf_any j h1 h2
  have HI : Hid (∀ r v W, Calls Tryz.prog 241 #[.pointer r, .iface t v] W fun e w' => e = .returned (.bool q) ∧ Below W.heap.size W w') := by rw [ht, hq]; exact fun r v W => (is_6 j h1 h2 r v W).mono fun _ _ ⟨he, hw⟩ => ⟨he, by rw [hw]; exact Below.refl _ _⟩
  have HE1 : Hid (∀ W, Calls Tryz.prog 28 #[.int .i64 6] W fun e w' => e = .returned (.iface 117 (.pointer (some ⟨W.heap.size, 0, none⟩))) ∧ Below W.heap.size W w') := errorOf_any 6 (by decide) (by decide)
  have tis : ∀ (v : Value) (w : World), (Instr.typeAssert (.iface 117 v) 77 81 true).run Tryz.prog w = .ok (.tuple #[.iface 117 v, .bool true]) w := fun _ _ => by kernel_rfl
  have nilA : ∀ (a : Addr) (w : World), (nilAhead 499 117 (.pointer (some a)) "Is").run Tryz.prog w = .ok (some false) w := fun _ _ => by kernel_rfl
  have meth : ∀ (a : Addr) (w : World), (method 499 117 (.pointer (some a)) "Is").run Tryz.prog w = .ok (241, .pointer (some a)) w := fun _ _ => by kernel_rfl
  rw [← hq]
  clear hq ht
  go_enter Tryz.func18, Tryz.ntmps18
  go_wp2_with (fail)
  refine (HE1.out w).mono ?_
  rintro e w1 ⟨rfl, hb1⟩
  have HB1 := Lib.hid hb1
  have hB0 : Below w.heap.size w w1.drew := hb1.drew
  clear hb1
  go_wp2_with (fail)
  go_region_held3 (fun W' => Below w.heap.size w W') (first | exact hB0 | assumption) (first | (go_at_call 28; go_must (go_fit (HE.out _)); rintro e w2 ⟨rfl, hb2⟩; have hbb := below_st (by assumption) (Nat.le_refl _) hb2) | (go_at_call 241; go_must (go_fit (HI.out _ _ _)); rintro e w2 ⟨rfl, hb2⟩; have hbc := below_st (by assumption) (Nat.le_refl _) hb2))
  all_goals
    have HBC := Lib.hid hbc
    clear hbc hbb hB0
    go_wp2_with (fail)
    go_ret
    exact ⟨rfl, HBC.out⟩
set_option maxRecDepth 100000 in
set_option maxHeartbeats 1000000 in
theorem errorIs_7 (j : Nat) (h1 : 1 ≤ j) (h2 : j ≤ 11) (w : World) : Calls Tryz.prog 18 #[.int .i64 7, .int .i64 j] w fun e w' => e = .returned (.bool (isB 7 j)) ∧ Below w.heap.size w w' := by
  obtain ⟨t, ht⟩ : ∃ t, t = ptT j := ⟨_, rfl⟩
  obtain ⟨q, hq⟩ : ∃ q, q = isB 7 j := ⟨_, rfl⟩
  have HE : Hid (∀ W, Calls Tryz.prog 28 #[.int .i64 j] W fun e w' => e = .returned (.iface t (.pointer (some ⟨W.heap.size, 0, none⟩))) ∧ Below W.heap.size W w') := by rw [ht]; exact errorOf_any j h1 h2
  have HI : Hid (∀ r v W, Calls Tryz.prog 243 #[.pointer r, .iface t v] W fun e w' => e = .returned (.bool q) ∧ Below W.heap.size W w') := by rw [ht, hq]; exact fun r v W => (is_7 j h1 h2 r v W).mono fun _ _ ⟨he, hw⟩ => ⟨he, by rw [hw]; exact Below.refl _ _⟩
  have HE1 : Hid (∀ W, Calls Tryz.prog 28 #[.int .i64 7] W fun e w' => e = .returned (.iface 119 (.pointer (some ⟨W.heap.size, 0, none⟩))) ∧ Below W.heap.size W w') := errorOf_any 7 (by decide) (by decide)
  have tis : ∀ (v : Value) (w : World), (Instr.typeAssert (.iface 119 v) 77 81 true).run Tryz.prog w = .ok (.tuple #[.iface 119 v, .bool true]) w := fun _ _ => by kernel_rfl
  have nilA : ∀ (a : Addr) (w : World), (nilAhead 499 119 (.pointer (some a)) "Is").run Tryz.prog w = .ok (some false) w := fun _ _ => by kernel_rfl
  have meth : ∀ (a : Addr) (w : World), (method 499 119 (.pointer (some a)) "Is").run Tryz.prog w = .ok (243, .pointer (some a)) w := fun _ _ => by kernel_rfl
  rw [← hq]
  clear hq ht
  go_enter Tryz.func18, Tryz.ntmps18
  go_wp2_with (fail)
  refine (HE1.out w).mono ?_
  rintro e w1 ⟨rfl, hb1⟩
  have HB1 := Lib.hid hb1
  have hB0 : Below w.heap.size w w1.drew := hb1.drew
  clear hb1
  go_wp2_with (fail)
  go_region_held3 (fun W' => Below w.heap.size w W') (first | exact hB0 | assumption) (first | (go_at_call 28; go_must (go_fit (HE.out _)); rintro e w2 ⟨rfl, hb2⟩; have hbb := below_st (by assumption) (Nat.le_refl _) hb2) | (go_at_call 243; go_must (go_fit (HI.out _ _ _)); rintro e w2 ⟨rfl, hb2⟩; have hbc := below_st (by assumption) (Nat.le_refl _) hb2))
  all_goals
    have HBC := Lib.hid hbc
    clear hbc hbb hB0
    go_wp2_with (fail)
    go_ret
    exact ⟨rfl, HBC.out⟩
set_option maxRecDepth 100000 in
set_option maxHeartbeats 1000000 in
theorem errorIs_8 (j : Nat) (h1 : 1 ≤ j) (h2 : j ≤ 11) (w : World) : Calls Tryz.prog 18 #[.int .i64 8, .int .i64 j] w fun e w' => e = .returned (.bool (isB 8 j)) ∧ Below w.heap.size w w' := by
  obtain ⟨t, ht⟩ : ∃ t, t = ptT j := ⟨_, rfl⟩
  obtain ⟨q, hq⟩ : ∃ q, q = isB 8 j := ⟨_, rfl⟩
  have HE : Hid (∀ W, Calls Tryz.prog 28 #[.int .i64 j] W fun e w' => e = .returned (.iface t (.pointer (some ⟨W.heap.size, 0, none⟩))) ∧ Below W.heap.size W w') := by rw [ht]; exact errorOf_any j h1 h2
  have HI : Hid (∀ r v W, Calls Tryz.prog 245 #[.pointer r, .iface t v] W fun e w' => e = .returned (.bool q) ∧ Below W.heap.size W w') := by rw [ht, hq]; exact fun r v W => (is_8 j h1 h2 r v W).mono fun _ _ ⟨he, hw⟩ => ⟨he, by rw [hw]; exact Below.refl _ _⟩
  have HE1 : Hid (∀ W, Calls Tryz.prog 28 #[.int .i64 8] W fun e w' => e = .returned (.iface 121 (.pointer (some ⟨W.heap.size, 0, none⟩))) ∧ Below W.heap.size W w') := errorOf_any 8 (by decide) (by decide)
  have tis : ∀ (v : Value) (w : World), (Instr.typeAssert (.iface 121 v) 77 81 true).run Tryz.prog w = .ok (.tuple #[.iface 121 v, .bool true]) w := fun _ _ => by kernel_rfl
  have nilA : ∀ (a : Addr) (w : World), (nilAhead 499 121 (.pointer (some a)) "Is").run Tryz.prog w = .ok (some false) w := fun _ _ => by kernel_rfl
  have meth : ∀ (a : Addr) (w : World), (method 499 121 (.pointer (some a)) "Is").run Tryz.prog w = .ok (245, .pointer (some a)) w := fun _ _ => by kernel_rfl
  rw [← hq]
  clear hq ht
  go_enter Tryz.func18, Tryz.ntmps18
  go_wp2_with (fail)
  refine (HE1.out w).mono ?_
  rintro e w1 ⟨rfl, hb1⟩
  have HB1 := Lib.hid hb1
  have hB0 : Below w.heap.size w w1.drew := hb1.drew
  clear hb1
  go_wp2_with (fail)
  go_region_held3 (fun W' => Below w.heap.size w W') (first | exact hB0 | assumption) (first | (go_at_call 28; go_must (go_fit (HE.out _)); rintro e w2 ⟨rfl, hb2⟩; have hbb := below_st (by assumption) (Nat.le_refl _) hb2) | (go_at_call 245; go_must (go_fit (HI.out _ _ _)); rintro e w2 ⟨rfl, hb2⟩; have hbc := below_st (by assumption) (Nat.le_refl _) hb2))
  all_goals
    have HBC := Lib.hid hbc
    clear hbc hbb hB0
    go_wp2_with (fail)
    go_ret
    exact ⟨rfl, HBC.out⟩
set_option maxRecDepth 100000 in
set_option maxHeartbeats 1000000 in
theorem errorIs_9 (j : Nat) (h1 : 1 ≤ j) (h2 : j ≤ 11) (w : World) : Calls Tryz.prog 18 #[.int .i64 9, .int .i64 j] w fun e w' => e = .returned (.bool (isB 9 j)) ∧ Below w.heap.size w w' := by
  obtain ⟨t, ht⟩ : ∃ t, t = ptT j := ⟨_, rfl⟩
  obtain ⟨q, hq⟩ : ∃ q, q = isB 9 j := ⟨_, rfl⟩
  have HE : Hid (∀ W, Calls Tryz.prog 28 #[.int .i64 j] W fun e w' => e = .returned (.iface t (.pointer (some ⟨W.heap.size, 0, none⟩))) ∧ Below W.heap.size W w') := by rw [ht]; exact errorOf_any j h1 h2
  have HI : Hid (∀ r v W, Calls Tryz.prog 247 #[.pointer r, .iface t v] W fun e w' => e = .returned (.bool q) ∧ Below W.heap.size W w') := by rw [ht, hq]; exact fun r v W => (is_9 j h1 h2 r v W).mono fun _ _ ⟨he, hw⟩ => ⟨he, by rw [hw]; exact Below.refl _ _⟩
  have HE1 : Hid (∀ W, Calls Tryz.prog 28 #[.int .i64 9] W fun e w' => e = .returned (.iface 123 (.pointer (some ⟨W.heap.size, 0, none⟩))) ∧ Below W.heap.size W w') := errorOf_any 9 (by decide) (by decide)
  have tis : ∀ (v : Value) (w : World), (Instr.typeAssert (.iface 123 v) 77 81 true).run Tryz.prog w = .ok (.tuple #[.iface 123 v, .bool true]) w := fun _ _ => by kernel_rfl
  have nilA : ∀ (a : Addr) (w : World), (nilAhead 499 123 (.pointer (some a)) "Is").run Tryz.prog w = .ok (some false) w := fun _ _ => by kernel_rfl
  have meth : ∀ (a : Addr) (w : World), (method 499 123 (.pointer (some a)) "Is").run Tryz.prog w = .ok (247, .pointer (some a)) w := fun _ _ => by kernel_rfl
  rw [← hq]
  clear hq ht
  go_enter Tryz.func18, Tryz.ntmps18
  go_wp2_with (fail)
  refine (HE1.out w).mono ?_
  rintro e w1 ⟨rfl, hb1⟩
  have HB1 := Lib.hid hb1
  have hB0 : Below w.heap.size w w1.drew := hb1.drew
  clear hb1
  go_wp2_with (fail)
  go_region_held3 (fun W' => Below w.heap.size w W') (first | exact hB0 | assumption) (first | (go_at_call 28; go_must (go_fit (HE.out _)); rintro e w2 ⟨rfl, hb2⟩; have hbb := below_st (by assumption) (Nat.le_refl _) hb2) | (go_at_call 247; go_must (go_fit (HI.out _ _ _)); rintro e w2 ⟨rfl, hb2⟩; have hbc := below_st (by assumption) (Nat.le_refl _) hb2))
  all_goals
    have HBC := Lib.hid hbc
    clear hbc hbb hB0
    go_wp2_with (fail)
    go_ret
    exact ⟨rfl, HBC.out⟩
set_option maxRecDepth 100000 in
set_option maxHeartbeats 1000000 in
theorem errorIs_10 (j : Nat) (h1 : 1 ≤ j) (h2 : j ≤ 11) (w : World) : Calls Tryz.prog 18 #[.int .i64 10, .int .i64 j] w fun e w' => e = .returned (.bool (isB 10 j)) ∧ Below w.heap.size w w' := by
  obtain ⟨t, ht⟩ : ∃ t, t = ptT j := ⟨_, rfl⟩
  obtain ⟨q, hq⟩ : ∃ q, q = isB 10 j := ⟨_, rfl⟩
  have HE : Hid (∀ W, Calls Tryz.prog 28 #[.int .i64 j] W fun e w' => e = .returned (.iface t (.pointer (some ⟨W.heap.size, 0, none⟩))) ∧ Below W.heap.size W w') := by rw [ht]; exact errorOf_any j h1 h2
  have HI : Hid (∀ r v W, Calls Tryz.prog 249 #[.pointer r, .iface t v] W fun e w' => e = .returned (.bool q) ∧ Below W.heap.size W w') := by rw [ht, hq]; exact fun r v W => (is_10 j h1 h2 r v W).mono fun _ _ ⟨he, hw⟩ => ⟨he, by rw [hw]; exact Below.refl _ _⟩
  have HE1 : Hid (∀ W, Calls Tryz.prog 28 #[.int .i64 10] W fun e w' => e = .returned (.iface 125 (.pointer (some ⟨W.heap.size, 0, none⟩))) ∧ Below W.heap.size W w') := errorOf_any 10 (by decide) (by decide)
  have tis : ∀ (v : Value) (w : World), (Instr.typeAssert (.iface 125 v) 77 81 true).run Tryz.prog w = .ok (.tuple #[.iface 125 v, .bool true]) w := fun _ _ => by kernel_rfl
  have nilA : ∀ (a : Addr) (w : World), (nilAhead 499 125 (.pointer (some a)) "Is").run Tryz.prog w = .ok (some false) w := fun _ _ => by kernel_rfl
  have meth : ∀ (a : Addr) (w : World), (method 499 125 (.pointer (some a)) "Is").run Tryz.prog w = .ok (249, .pointer (some a)) w := fun _ _ => by kernel_rfl
  rw [← hq]
  clear hq ht
  go_enter Tryz.func18, Tryz.ntmps18
  go_wp2_with (fail)
  refine (HE1.out w).mono ?_
  rintro e w1 ⟨rfl, hb1⟩
  have HB1 := Lib.hid hb1
  have hB0 : Below w.heap.size w w1.drew := hb1.drew
  clear hb1
  go_wp2_with (fail)
  go_region_held3 (fun W' => Below w.heap.size w W') (first | exact hB0 | assumption) (first | (go_at_call 28; go_must (go_fit (HE.out _)); rintro e w2 ⟨rfl, hb2⟩; have hbb := below_st (by assumption) (Nat.le_refl _) hb2) | (go_at_call 249; go_must (go_fit (HI.out _ _ _)); rintro e w2 ⟨rfl, hb2⟩; have hbc := below_st (by assumption) (Nat.le_refl _) hb2))
  all_goals
    have HBC := Lib.hid hbc
    clear hbc hbb hB0
    go_wp2_with (fail)
    go_ret
    exact ⟨rfl, HBC.out⟩
set_option maxRecDepth 100000 in
set_option maxHeartbeats 1000000 in
theorem errorIs_11 (j : Nat) (h1 : 1 ≤ j) (h2 : j ≤ 11) (w : World) : Calls Tryz.prog 18 #[.int .i64 11, .int .i64 j] w fun e w' => e = .returned (.bool (isB 11 j)) ∧ Below w.heap.size w w' := by
  obtain ⟨t, ht⟩ : ∃ t, t = ptT j := ⟨_, rfl⟩
  obtain ⟨q, hq⟩ : ∃ q, q = isB 11 j := ⟨_, rfl⟩
  have HE : Hid (∀ W, Calls Tryz.prog 28 #[.int .i64 j] W fun e w' => e = .returned (.iface t (.pointer (some ⟨W.heap.size, 0, none⟩))) ∧ Below W.heap.size W w') := by rw [ht]; exact errorOf_any j h1 h2
  have HI : Hid (∀ r v W, Calls Tryz.prog 251 #[.pointer r, .iface t v] W fun e w' => e = .returned (.bool q) ∧ Below W.heap.size W w') := by rw [ht, hq]; exact fun r v W => (is_11 j h1 h2 r v W).mono fun _ _ ⟨he, hw⟩ => ⟨he, by rw [hw]; exact Below.refl _ _⟩
  have HE1 : Hid (∀ W, Calls Tryz.prog 28 #[.int .i64 11] W fun e w' => e = .returned (.iface 127 (.pointer (some ⟨W.heap.size, 0, none⟩))) ∧ Below W.heap.size W w') := errorOf_any 11 (by decide) (by decide)
  have tis : ∀ (v : Value) (w : World), (Instr.typeAssert (.iface 127 v) 77 81 true).run Tryz.prog w = .ok (.tuple #[.iface 127 v, .bool true]) w := fun _ _ => by kernel_rfl
  have nilA : ∀ (a : Addr) (w : World), (nilAhead 499 127 (.pointer (some a)) "Is").run Tryz.prog w = .ok (some false) w := fun _ _ => by kernel_rfl
  have meth : ∀ (a : Addr) (w : World), (method 499 127 (.pointer (some a)) "Is").run Tryz.prog w = .ok (251, .pointer (some a)) w := fun _ _ => by kernel_rfl
  rw [← hq]
  clear hq ht
  go_enter Tryz.func18, Tryz.ntmps18
  go_wp2_with (fail)
  refine (HE1.out w).mono ?_
  rintro e w1 ⟨rfl, hb1⟩
  have HB1 := Lib.hid hb1
  have hB0 : Below w.heap.size w w1.drew := hb1.drew
  clear hb1
  go_wp2_with (fail)
  go_region_held3 (fun W' => Below w.heap.size w W') (first | exact hB0 | assumption) (first | (go_at_call 28; go_must (go_fit (HE.out _)); rintro e w2 ⟨rfl, hb2⟩; have hbb := below_st (by assumption) (Nat.le_refl _) hb2) | (go_at_call 251; go_must (go_fit (HI.out _ _ _)); rintro e w2 ⟨rfl, hb2⟩; have hbc := below_st (by assumption) (Nat.le_refl _) hb2))
  all_goals
    have HBC := Lib.hid hbc
    clear hbc hbb hB0
    go_wp2_with (fail)
    go_ret
    exact ⟨rfl, HBC.out⟩
theorem errorIs_any (i j : Nat) (g1 : 1 ≤ i) (g2 : i ≤ 11) (h1 : 1 ≤ j) (h2 : j ≤ 11) (w : World) : Calls Tryz.prog 18 #[.int .i64 i, .int .i64 j] w fun e w' => e = .returned (.bool (isB i j)) ∧ Below w.heap.size w w' := by
  match i, g1, g2 with
  | 1, _, _ => exact errorIs_1 j h1 h2 w
  | 2, _, _ => exact errorIs_2 j h1 h2 w
  | 3, _, _ => exact errorIs_3 j h1 h2 w
  | 4, _, _ => exact errorIs_4 j h1 h2 w
  | 5, _, _ => exact errorIs_5 j h1 h2 w
  | 6, _, _ => exact errorIs_6 j h1 h2 w
  | 7, _, _ => exact errorIs_7 j h1 h2 w
  | 8, _, _ => exact errorIs_8 j h1 h2 w
  | 9, _, _ => exact errorIs_9 j h1 h2 w
  | 10, _, _ => exact errorIs_10 j h1 h2 w
  | 11, _, _ => exact errorIs_11 j h1 h2 w
end Go.Proofs.YtlliohgbbboleaaGreatDoor
