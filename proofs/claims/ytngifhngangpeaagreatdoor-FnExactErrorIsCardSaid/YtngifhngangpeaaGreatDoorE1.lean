/- The errors' own Is, errorOf, impl.ErrorIs. -/
import Derived.Test.YtngifhngangpeaaGreatDoorT0
import Derived.Deep.RegionHeld3
open Go Go.RowKit
namespace Go.Proofs.YtngifhngangpeaaGreatDoor
theorem below_st {n : Nat} {w W W' : World} (h : Below n w W) (hn : n ≤ w.heap.size) (h2 : Below W.heap.size W W') : Below n w W' := h.trans (h2.mono (Nat.le_trans hn h.size))
/-- The dynamic type of an error's number. -/
def ptT : Nat → TypeId
  | 1 => 94
  | 2 => 97
  | 3 => 99
  | 4 => 101
  | 5 => 103
  | 6 => 105
  | 7 => 107
  | 8 => 109
  | 9 => 111
  | 10 => 113
  | 11 => 115
  | _ => 0
/-- Whether an error's number is of another's kind. -/
def isB : Nat → Nat → Bool
  | 1, 1 => true
  | 2, 2 => true
  | 3, 3 => true
  | 3, 4 => true
  | 4, 4 => true
  | 5, 5 => true
  | 5, 4 => true
  | 6, 6 => true
  | 6, 5 => true
  | 6, 4 => true
  | 7, 7 => true
  | 7, 4 => true
  | 8, 8 => true
  | 8, 4 => true
  | 9, 9 => true
  | 10, 10 => true
  | 11, 11 => true
  | 11, 10 => true
  | _, _ => false
set_option maxRecDepth 100000 in
theorem is_1 (j : Nat) (h1 : 1 ≤ j) (h2 : j ≤ 11) (r : Option Addr) (v : Value) (w : World) : Calls Tryz.prog 263 #[.pointer r, .iface (ptT j) v] w fun e w' => e = .returned (.bool (isB 1 j)) ∧ w' = w := by
  match j, h1, h2 with
  | 1, _, _ =>
    show Calls Tryz.prog 263 #[.pointer r, .iface 94 v] w fun e w' => e = .returned (.bool true) ∧ w' = w
    have t1 : ∀ w, (Instr.typeAssert (.iface 94 v) 69 94 true).run Tryz.prog w = .ok (.tuple #[v, .bool true]) w := fun _ => by kernel_rfl
    go_enter Tryz.func263, Tryz.ntmps263
    go_wp2_with (fail)
    go_ret
    exact ⟨rfl, rfl⟩
  | 2, _, _ =>
    show Calls Tryz.prog 263 #[.pointer r, .iface 97 v] w fun e w' => e = .returned (.bool false) ∧ w' = w
    have t1 : ∀ w, (Instr.typeAssert (.iface 97 v) 69 94 true).run Tryz.prog w = .ok (.tuple #[.pointer none, .bool false]) w := fun _ => by kernel_rfl
    go_enter Tryz.func263, Tryz.ntmps263
    go_wp2_with (fail)
    go_ret
    exact ⟨rfl, rfl⟩
  | 3, _, _ =>
    show Calls Tryz.prog 263 #[.pointer r, .iface 99 v] w fun e w' => e = .returned (.bool false) ∧ w' = w
    have t1 : ∀ w, (Instr.typeAssert (.iface 99 v) 69 94 true).run Tryz.prog w = .ok (.tuple #[.pointer none, .bool false]) w := fun _ => by kernel_rfl
    go_enter Tryz.func263, Tryz.ntmps263
    go_wp2_with (fail)
    go_ret
    exact ⟨rfl, rfl⟩
  | 4, _, _ =>
    show Calls Tryz.prog 263 #[.pointer r, .iface 101 v] w fun e w' => e = .returned (.bool false) ∧ w' = w
    have t1 : ∀ w, (Instr.typeAssert (.iface 101 v) 69 94 true).run Tryz.prog w = .ok (.tuple #[.pointer none, .bool false]) w := fun _ => by kernel_rfl
    go_enter Tryz.func263, Tryz.ntmps263
    go_wp2_with (fail)
    go_ret
    exact ⟨rfl, rfl⟩
  | 5, _, _ =>
    show Calls Tryz.prog 263 #[.pointer r, .iface 103 v] w fun e w' => e = .returned (.bool false) ∧ w' = w
    have t1 : ∀ w, (Instr.typeAssert (.iface 103 v) 69 94 true).run Tryz.prog w = .ok (.tuple #[.pointer none, .bool false]) w := fun _ => by kernel_rfl
    go_enter Tryz.func263, Tryz.ntmps263
    go_wp2_with (fail)
    go_ret
    exact ⟨rfl, rfl⟩
  | 6, _, _ =>
    show Calls Tryz.prog 263 #[.pointer r, .iface 105 v] w fun e w' => e = .returned (.bool false) ∧ w' = w
    have t1 : ∀ w, (Instr.typeAssert (.iface 105 v) 69 94 true).run Tryz.prog w = .ok (.tuple #[.pointer none, .bool false]) w := fun _ => by kernel_rfl
    go_enter Tryz.func263, Tryz.ntmps263
    go_wp2_with (fail)
    go_ret
    exact ⟨rfl, rfl⟩
  | 7, _, _ =>
    show Calls Tryz.prog 263 #[.pointer r, .iface 107 v] w fun e w' => e = .returned (.bool false) ∧ w' = w
    have t1 : ∀ w, (Instr.typeAssert (.iface 107 v) 69 94 true).run Tryz.prog w = .ok (.tuple #[.pointer none, .bool false]) w := fun _ => by kernel_rfl
    go_enter Tryz.func263, Tryz.ntmps263
    go_wp2_with (fail)
    go_ret
    exact ⟨rfl, rfl⟩
  | 8, _, _ =>
    show Calls Tryz.prog 263 #[.pointer r, .iface 109 v] w fun e w' => e = .returned (.bool false) ∧ w' = w
    have t1 : ∀ w, (Instr.typeAssert (.iface 109 v) 69 94 true).run Tryz.prog w = .ok (.tuple #[.pointer none, .bool false]) w := fun _ => by kernel_rfl
    go_enter Tryz.func263, Tryz.ntmps263
    go_wp2_with (fail)
    go_ret
    exact ⟨rfl, rfl⟩
  | 9, _, _ =>
    show Calls Tryz.prog 263 #[.pointer r, .iface 111 v] w fun e w' => e = .returned (.bool false) ∧ w' = w
    have t1 : ∀ w, (Instr.typeAssert (.iface 111 v) 69 94 true).run Tryz.prog w = .ok (.tuple #[.pointer none, .bool false]) w := fun _ => by kernel_rfl
    go_enter Tryz.func263, Tryz.ntmps263
    go_wp2_with (fail)
    go_ret
    exact ⟨rfl, rfl⟩
  | 10, _, _ =>
    show Calls Tryz.prog 263 #[.pointer r, .iface 113 v] w fun e w' => e = .returned (.bool false) ∧ w' = w
    have t1 : ∀ w, (Instr.typeAssert (.iface 113 v) 69 94 true).run Tryz.prog w = .ok (.tuple #[.pointer none, .bool false]) w := fun _ => by kernel_rfl
    go_enter Tryz.func263, Tryz.ntmps263
    go_wp2_with (fail)
    go_ret
    exact ⟨rfl, rfl⟩
  | 11, _, _ =>
    show Calls Tryz.prog 263 #[.pointer r, .iface 115 v] w fun e w' => e = .returned (.bool false) ∧ w' = w
    have t1 : ∀ w, (Instr.typeAssert (.iface 115 v) 69 94 true).run Tryz.prog w = .ok (.tuple #[.pointer none, .bool false]) w := fun _ => by kernel_rfl
    go_enter Tryz.func263, Tryz.ntmps263
    go_wp2_with (fail)
    go_ret
    exact ⟨rfl, rfl⟩
set_option maxRecDepth 100000 in
theorem is_2 (j : Nat) (h1 : 1 ≤ j) (h2 : j ≤ 11) (r : Option Addr) (v : Value) (w : World) : Calls Tryz.prog 265 #[.pointer r, .iface (ptT j) v] w fun e w' => e = .returned (.bool (isB 2 j)) ∧ w' = w := by
  match j, h1, h2 with
  | 1, _, _ =>
    show Calls Tryz.prog 265 #[.pointer r, .iface 94 v] w fun e w' => e = .returned (.bool false) ∧ w' = w
    have t2 : ∀ w, (Instr.typeAssert (.iface 94 v) 69 97 true).run Tryz.prog w = .ok (.tuple #[.pointer none, .bool false]) w := fun _ => by kernel_rfl
    go_enter Tryz.func265, Tryz.ntmps265
    go_wp2_with (fail)
    go_ret
    exact ⟨rfl, rfl⟩
  | 2, _, _ =>
    show Calls Tryz.prog 265 #[.pointer r, .iface 97 v] w fun e w' => e = .returned (.bool true) ∧ w' = w
    have t2 : ∀ w, (Instr.typeAssert (.iface 97 v) 69 97 true).run Tryz.prog w = .ok (.tuple #[v, .bool true]) w := fun _ => by kernel_rfl
    go_enter Tryz.func265, Tryz.ntmps265
    go_wp2_with (fail)
    go_ret
    exact ⟨rfl, rfl⟩
  | 3, _, _ =>
    show Calls Tryz.prog 265 #[.pointer r, .iface 99 v] w fun e w' => e = .returned (.bool false) ∧ w' = w
    have t2 : ∀ w, (Instr.typeAssert (.iface 99 v) 69 97 true).run Tryz.prog w = .ok (.tuple #[.pointer none, .bool false]) w := fun _ => by kernel_rfl
    go_enter Tryz.func265, Tryz.ntmps265
    go_wp2_with (fail)
    go_ret
    exact ⟨rfl, rfl⟩
  | 4, _, _ =>
    show Calls Tryz.prog 265 #[.pointer r, .iface 101 v] w fun e w' => e = .returned (.bool false) ∧ w' = w
    have t2 : ∀ w, (Instr.typeAssert (.iface 101 v) 69 97 true).run Tryz.prog w = .ok (.tuple #[.pointer none, .bool false]) w := fun _ => by kernel_rfl
    go_enter Tryz.func265, Tryz.ntmps265
    go_wp2_with (fail)
    go_ret
    exact ⟨rfl, rfl⟩
  | 5, _, _ =>
    show Calls Tryz.prog 265 #[.pointer r, .iface 103 v] w fun e w' => e = .returned (.bool false) ∧ w' = w
    have t2 : ∀ w, (Instr.typeAssert (.iface 103 v) 69 97 true).run Tryz.prog w = .ok (.tuple #[.pointer none, .bool false]) w := fun _ => by kernel_rfl
    go_enter Tryz.func265, Tryz.ntmps265
    go_wp2_with (fail)
    go_ret
    exact ⟨rfl, rfl⟩
  | 6, _, _ =>
    show Calls Tryz.prog 265 #[.pointer r, .iface 105 v] w fun e w' => e = .returned (.bool false) ∧ w' = w
    have t2 : ∀ w, (Instr.typeAssert (.iface 105 v) 69 97 true).run Tryz.prog w = .ok (.tuple #[.pointer none, .bool false]) w := fun _ => by kernel_rfl
    go_enter Tryz.func265, Tryz.ntmps265
    go_wp2_with (fail)
    go_ret
    exact ⟨rfl, rfl⟩
  | 7, _, _ =>
    show Calls Tryz.prog 265 #[.pointer r, .iface 107 v] w fun e w' => e = .returned (.bool false) ∧ w' = w
    have t2 : ∀ w, (Instr.typeAssert (.iface 107 v) 69 97 true).run Tryz.prog w = .ok (.tuple #[.pointer none, .bool false]) w := fun _ => by kernel_rfl
    go_enter Tryz.func265, Tryz.ntmps265
    go_wp2_with (fail)
    go_ret
    exact ⟨rfl, rfl⟩
  | 8, _, _ =>
    show Calls Tryz.prog 265 #[.pointer r, .iface 109 v] w fun e w' => e = .returned (.bool false) ∧ w' = w
    have t2 : ∀ w, (Instr.typeAssert (.iface 109 v) 69 97 true).run Tryz.prog w = .ok (.tuple #[.pointer none, .bool false]) w := fun _ => by kernel_rfl
    go_enter Tryz.func265, Tryz.ntmps265
    go_wp2_with (fail)
    go_ret
    exact ⟨rfl, rfl⟩
  | 9, _, _ =>
    show Calls Tryz.prog 265 #[.pointer r, .iface 111 v] w fun e w' => e = .returned (.bool false) ∧ w' = w
    have t2 : ∀ w, (Instr.typeAssert (.iface 111 v) 69 97 true).run Tryz.prog w = .ok (.tuple #[.pointer none, .bool false]) w := fun _ => by kernel_rfl
    go_enter Tryz.func265, Tryz.ntmps265
    go_wp2_with (fail)
    go_ret
    exact ⟨rfl, rfl⟩
  | 10, _, _ =>
    show Calls Tryz.prog 265 #[.pointer r, .iface 113 v] w fun e w' => e = .returned (.bool false) ∧ w' = w
    have t2 : ∀ w, (Instr.typeAssert (.iface 113 v) 69 97 true).run Tryz.prog w = .ok (.tuple #[.pointer none, .bool false]) w := fun _ => by kernel_rfl
    go_enter Tryz.func265, Tryz.ntmps265
    go_wp2_with (fail)
    go_ret
    exact ⟨rfl, rfl⟩
  | 11, _, _ =>
    show Calls Tryz.prog 265 #[.pointer r, .iface 115 v] w fun e w' => e = .returned (.bool false) ∧ w' = w
    have t2 : ∀ w, (Instr.typeAssert (.iface 115 v) 69 97 true).run Tryz.prog w = .ok (.tuple #[.pointer none, .bool false]) w := fun _ => by kernel_rfl
    go_enter Tryz.func265, Tryz.ntmps265
    go_wp2_with (fail)
    go_ret
    exact ⟨rfl, rfl⟩
set_option maxRecDepth 100000 in
theorem is_3 (j : Nat) (h1 : 1 ≤ j) (h2 : j ≤ 11) (r : Option Addr) (v : Value) (w : World) : Calls Tryz.prog 267 #[.pointer r, .iface (ptT j) v] w fun e w' => e = .returned (.bool (isB 3 j)) ∧ w' = w := by
  match j, h1, h2 with
  | 1, _, _ =>
    show Calls Tryz.prog 267 #[.pointer r, .iface 94 v] w fun e w' => e = .returned (.bool false) ∧ w' = w
    have t3 : ∀ w, (Instr.typeAssert (.iface 94 v) 69 99 true).run Tryz.prog w = .ok (.tuple #[.pointer none, .bool false]) w := fun _ => by kernel_rfl
    have t4 : ∀ w, (Instr.typeAssert (.iface 94 v) 69 101 true).run Tryz.prog w = .ok (.tuple #[.pointer none, .bool false]) w := fun _ => by kernel_rfl
    go_enter Tryz.func267, Tryz.ntmps267
    go_wp2_with (fail)
    go_ret
    exact ⟨rfl, rfl⟩
  | 2, _, _ =>
    show Calls Tryz.prog 267 #[.pointer r, .iface 97 v] w fun e w' => e = .returned (.bool false) ∧ w' = w
    have t3 : ∀ w, (Instr.typeAssert (.iface 97 v) 69 99 true).run Tryz.prog w = .ok (.tuple #[.pointer none, .bool false]) w := fun _ => by kernel_rfl
    have t4 : ∀ w, (Instr.typeAssert (.iface 97 v) 69 101 true).run Tryz.prog w = .ok (.tuple #[.pointer none, .bool false]) w := fun _ => by kernel_rfl
    go_enter Tryz.func267, Tryz.ntmps267
    go_wp2_with (fail)
    go_ret
    exact ⟨rfl, rfl⟩
  | 3, _, _ =>
    show Calls Tryz.prog 267 #[.pointer r, .iface 99 v] w fun e w' => e = .returned (.bool true) ∧ w' = w
    have t3 : ∀ w, (Instr.typeAssert (.iface 99 v) 69 99 true).run Tryz.prog w = .ok (.tuple #[v, .bool true]) w := fun _ => by kernel_rfl
    go_enter Tryz.func267, Tryz.ntmps267
    go_wp2_with (fail)
    go_ret
    exact ⟨rfl, rfl⟩
  | 4, _, _ =>
    show Calls Tryz.prog 267 #[.pointer r, .iface 101 v] w fun e w' => e = .returned (.bool true) ∧ w' = w
    have t3 : ∀ w, (Instr.typeAssert (.iface 101 v) 69 99 true).run Tryz.prog w = .ok (.tuple #[.pointer none, .bool false]) w := fun _ => by kernel_rfl
    have t4 : ∀ w, (Instr.typeAssert (.iface 101 v) 69 101 true).run Tryz.prog w = .ok (.tuple #[v, .bool true]) w := fun _ => by kernel_rfl
    go_enter Tryz.func267, Tryz.ntmps267
    go_wp2_with (fail)
    go_ret
    exact ⟨rfl, rfl⟩
  | 5, _, _ =>
    show Calls Tryz.prog 267 #[.pointer r, .iface 103 v] w fun e w' => e = .returned (.bool false) ∧ w' = w
    have t3 : ∀ w, (Instr.typeAssert (.iface 103 v) 69 99 true).run Tryz.prog w = .ok (.tuple #[.pointer none, .bool false]) w := fun _ => by kernel_rfl
    have t4 : ∀ w, (Instr.typeAssert (.iface 103 v) 69 101 true).run Tryz.prog w = .ok (.tuple #[.pointer none, .bool false]) w := fun _ => by kernel_rfl
    go_enter Tryz.func267, Tryz.ntmps267
    go_wp2_with (fail)
    go_ret
    exact ⟨rfl, rfl⟩
  | 6, _, _ =>
    show Calls Tryz.prog 267 #[.pointer r, .iface 105 v] w fun e w' => e = .returned (.bool false) ∧ w' = w
    have t3 : ∀ w, (Instr.typeAssert (.iface 105 v) 69 99 true).run Tryz.prog w = .ok (.tuple #[.pointer none, .bool false]) w := fun _ => by kernel_rfl
    have t4 : ∀ w, (Instr.typeAssert (.iface 105 v) 69 101 true).run Tryz.prog w = .ok (.tuple #[.pointer none, .bool false]) w := fun _ => by kernel_rfl
    go_enter Tryz.func267, Tryz.ntmps267
    go_wp2_with (fail)
    go_ret
    exact ⟨rfl, rfl⟩
  | 7, _, _ =>
    show Calls Tryz.prog 267 #[.pointer r, .iface 107 v] w fun e w' => e = .returned (.bool false) ∧ w' = w
    have t3 : ∀ w, (Instr.typeAssert (.iface 107 v) 69 99 true).run Tryz.prog w = .ok (.tuple #[.pointer none, .bool false]) w := fun _ => by kernel_rfl
    have t4 : ∀ w, (Instr.typeAssert (.iface 107 v) 69 101 true).run Tryz.prog w = .ok (.tuple #[.pointer none, .bool false]) w := fun _ => by kernel_rfl
    go_enter Tryz.func267, Tryz.ntmps267
    go_wp2_with (fail)
    go_ret
    exact ⟨rfl, rfl⟩
  | 8, _, _ =>
    show Calls Tryz.prog 267 #[.pointer r, .iface 109 v] w fun e w' => e = .returned (.bool false) ∧ w' = w
    have t3 : ∀ w, (Instr.typeAssert (.iface 109 v) 69 99 true).run Tryz.prog w = .ok (.tuple #[.pointer none, .bool false]) w := fun _ => by kernel_rfl
    have t4 : ∀ w, (Instr.typeAssert (.iface 109 v) 69 101 true).run Tryz.prog w = .ok (.tuple #[.pointer none, .bool false]) w := fun _ => by kernel_rfl
    go_enter Tryz.func267, Tryz.ntmps267
    go_wp2_with (fail)
    go_ret
    exact ⟨rfl, rfl⟩
  | 9, _, _ =>
    show Calls Tryz.prog 267 #[.pointer r, .iface 111 v] w fun e w' => e = .returned (.bool false) ∧ w' = w
    have t3 : ∀ w, (Instr.typeAssert (.iface 111 v) 69 99 true).run Tryz.prog w = .ok (.tuple #[.pointer none, .bool false]) w := fun _ => by kernel_rfl
    have t4 : ∀ w, (Instr.typeAssert (.iface 111 v) 69 101 true).run Tryz.prog w = .ok (.tuple #[.pointer none, .bool false]) w := fun _ => by kernel_rfl
    go_enter Tryz.func267, Tryz.ntmps267
    go_wp2_with (fail)
    go_ret
    exact ⟨rfl, rfl⟩
  | 10, _, _ =>
    show Calls Tryz.prog 267 #[.pointer r, .iface 113 v] w fun e w' => e = .returned (.bool false) ∧ w' = w
    have t3 : ∀ w, (Instr.typeAssert (.iface 113 v) 69 99 true).run Tryz.prog w = .ok (.tuple #[.pointer none, .bool false]) w := fun _ => by kernel_rfl
    have t4 : ∀ w, (Instr.typeAssert (.iface 113 v) 69 101 true).run Tryz.prog w = .ok (.tuple #[.pointer none, .bool false]) w := fun _ => by kernel_rfl
    go_enter Tryz.func267, Tryz.ntmps267
    go_wp2_with (fail)
    go_ret
    exact ⟨rfl, rfl⟩
  | 11, _, _ =>
    show Calls Tryz.prog 267 #[.pointer r, .iface 115 v] w fun e w' => e = .returned (.bool false) ∧ w' = w
    have t3 : ∀ w, (Instr.typeAssert (.iface 115 v) 69 99 true).run Tryz.prog w = .ok (.tuple #[.pointer none, .bool false]) w := fun _ => by kernel_rfl
    have t4 : ∀ w, (Instr.typeAssert (.iface 115 v) 69 101 true).run Tryz.prog w = .ok (.tuple #[.pointer none, .bool false]) w := fun _ => by kernel_rfl
    go_enter Tryz.func267, Tryz.ntmps267
    go_wp2_with (fail)
    go_ret
    exact ⟨rfl, rfl⟩
set_option maxRecDepth 100000 in
theorem is_4 (j : Nat) (h1 : 1 ≤ j) (h2 : j ≤ 11) (r : Option Addr) (v : Value) (w : World) : Calls Tryz.prog 269 #[.pointer r, .iface (ptT j) v] w fun e w' => e = .returned (.bool (isB 4 j)) ∧ w' = w := by
  match j, h1, h2 with
  | 1, _, _ =>
    show Calls Tryz.prog 269 #[.pointer r, .iface 94 v] w fun e w' => e = .returned (.bool false) ∧ w' = w
    have t4 : ∀ w, (Instr.typeAssert (.iface 94 v) 69 101 true).run Tryz.prog w = .ok (.tuple #[.pointer none, .bool false]) w := fun _ => by kernel_rfl
    go_enter Tryz.func269, Tryz.ntmps269
    go_wp2_with (fail)
    go_ret
    exact ⟨rfl, rfl⟩
  | 2, _, _ =>
    show Calls Tryz.prog 269 #[.pointer r, .iface 97 v] w fun e w' => e = .returned (.bool false) ∧ w' = w
    have t4 : ∀ w, (Instr.typeAssert (.iface 97 v) 69 101 true).run Tryz.prog w = .ok (.tuple #[.pointer none, .bool false]) w := fun _ => by kernel_rfl
    go_enter Tryz.func269, Tryz.ntmps269
    go_wp2_with (fail)
    go_ret
    exact ⟨rfl, rfl⟩
  | 3, _, _ =>
    show Calls Tryz.prog 269 #[.pointer r, .iface 99 v] w fun e w' => e = .returned (.bool false) ∧ w' = w
    have t4 : ∀ w, (Instr.typeAssert (.iface 99 v) 69 101 true).run Tryz.prog w = .ok (.tuple #[.pointer none, .bool false]) w := fun _ => by kernel_rfl
    go_enter Tryz.func269, Tryz.ntmps269
    go_wp2_with (fail)
    go_ret
    exact ⟨rfl, rfl⟩
  | 4, _, _ =>
    show Calls Tryz.prog 269 #[.pointer r, .iface 101 v] w fun e w' => e = .returned (.bool true) ∧ w' = w
    have t4 : ∀ w, (Instr.typeAssert (.iface 101 v) 69 101 true).run Tryz.prog w = .ok (.tuple #[v, .bool true]) w := fun _ => by kernel_rfl
    go_enter Tryz.func269, Tryz.ntmps269
    go_wp2_with (fail)
    go_ret
    exact ⟨rfl, rfl⟩
  | 5, _, _ =>
    show Calls Tryz.prog 269 #[.pointer r, .iface 103 v] w fun e w' => e = .returned (.bool false) ∧ w' = w
    have t4 : ∀ w, (Instr.typeAssert (.iface 103 v) 69 101 true).run Tryz.prog w = .ok (.tuple #[.pointer none, .bool false]) w := fun _ => by kernel_rfl
    go_enter Tryz.func269, Tryz.ntmps269
    go_wp2_with (fail)
    go_ret
    exact ⟨rfl, rfl⟩
  | 6, _, _ =>
    show Calls Tryz.prog 269 #[.pointer r, .iface 105 v] w fun e w' => e = .returned (.bool false) ∧ w' = w
    have t4 : ∀ w, (Instr.typeAssert (.iface 105 v) 69 101 true).run Tryz.prog w = .ok (.tuple #[.pointer none, .bool false]) w := fun _ => by kernel_rfl
    go_enter Tryz.func269, Tryz.ntmps269
    go_wp2_with (fail)
    go_ret
    exact ⟨rfl, rfl⟩
  | 7, _, _ =>
    show Calls Tryz.prog 269 #[.pointer r, .iface 107 v] w fun e w' => e = .returned (.bool false) ∧ w' = w
    have t4 : ∀ w, (Instr.typeAssert (.iface 107 v) 69 101 true).run Tryz.prog w = .ok (.tuple #[.pointer none, .bool false]) w := fun _ => by kernel_rfl
    go_enter Tryz.func269, Tryz.ntmps269
    go_wp2_with (fail)
    go_ret
    exact ⟨rfl, rfl⟩
  | 8, _, _ =>
    show Calls Tryz.prog 269 #[.pointer r, .iface 109 v] w fun e w' => e = .returned (.bool false) ∧ w' = w
    have t4 : ∀ w, (Instr.typeAssert (.iface 109 v) 69 101 true).run Tryz.prog w = .ok (.tuple #[.pointer none, .bool false]) w := fun _ => by kernel_rfl
    go_enter Tryz.func269, Tryz.ntmps269
    go_wp2_with (fail)
    go_ret
    exact ⟨rfl, rfl⟩
  | 9, _, _ =>
    show Calls Tryz.prog 269 #[.pointer r, .iface 111 v] w fun e w' => e = .returned (.bool false) ∧ w' = w
    have t4 : ∀ w, (Instr.typeAssert (.iface 111 v) 69 101 true).run Tryz.prog w = .ok (.tuple #[.pointer none, .bool false]) w := fun _ => by kernel_rfl
    go_enter Tryz.func269, Tryz.ntmps269
    go_wp2_with (fail)
    go_ret
    exact ⟨rfl, rfl⟩
  | 10, _, _ =>
    show Calls Tryz.prog 269 #[.pointer r, .iface 113 v] w fun e w' => e = .returned (.bool false) ∧ w' = w
    have t4 : ∀ w, (Instr.typeAssert (.iface 113 v) 69 101 true).run Tryz.prog w = .ok (.tuple #[.pointer none, .bool false]) w := fun _ => by kernel_rfl
    go_enter Tryz.func269, Tryz.ntmps269
    go_wp2_with (fail)
    go_ret
    exact ⟨rfl, rfl⟩
  | 11, _, _ =>
    show Calls Tryz.prog 269 #[.pointer r, .iface 115 v] w fun e w' => e = .returned (.bool false) ∧ w' = w
    have t4 : ∀ w, (Instr.typeAssert (.iface 115 v) 69 101 true).run Tryz.prog w = .ok (.tuple #[.pointer none, .bool false]) w := fun _ => by kernel_rfl
    go_enter Tryz.func269, Tryz.ntmps269
    go_wp2_with (fail)
    go_ret
    exact ⟨rfl, rfl⟩
set_option maxRecDepth 100000 in
theorem is_5 (j : Nat) (h1 : 1 ≤ j) (h2 : j ≤ 11) (r : Option Addr) (v : Value) (w : World) : Calls Tryz.prog 271 #[.pointer r, .iface (ptT j) v] w fun e w' => e = .returned (.bool (isB 5 j)) ∧ w' = w := by
  match j, h1, h2 with
  | 1, _, _ =>
    show Calls Tryz.prog 271 #[.pointer r, .iface 94 v] w fun e w' => e = .returned (.bool false) ∧ w' = w
    have t5 : ∀ w, (Instr.typeAssert (.iface 94 v) 69 103 true).run Tryz.prog w = .ok (.tuple #[.pointer none, .bool false]) w := fun _ => by kernel_rfl
    have t4 : ∀ w, (Instr.typeAssert (.iface 94 v) 69 101 true).run Tryz.prog w = .ok (.tuple #[.pointer none, .bool false]) w := fun _ => by kernel_rfl
    go_enter Tryz.func271, Tryz.ntmps271
    go_wp2_with (fail)
    go_ret
    exact ⟨rfl, rfl⟩
  | 2, _, _ =>
    show Calls Tryz.prog 271 #[.pointer r, .iface 97 v] w fun e w' => e = .returned (.bool false) ∧ w' = w
    have t5 : ∀ w, (Instr.typeAssert (.iface 97 v) 69 103 true).run Tryz.prog w = .ok (.tuple #[.pointer none, .bool false]) w := fun _ => by kernel_rfl
    have t4 : ∀ w, (Instr.typeAssert (.iface 97 v) 69 101 true).run Tryz.prog w = .ok (.tuple #[.pointer none, .bool false]) w := fun _ => by kernel_rfl
    go_enter Tryz.func271, Tryz.ntmps271
    go_wp2_with (fail)
    go_ret
    exact ⟨rfl, rfl⟩
  | 3, _, _ =>
    show Calls Tryz.prog 271 #[.pointer r, .iface 99 v] w fun e w' => e = .returned (.bool false) ∧ w' = w
    have t5 : ∀ w, (Instr.typeAssert (.iface 99 v) 69 103 true).run Tryz.prog w = .ok (.tuple #[.pointer none, .bool false]) w := fun _ => by kernel_rfl
    have t4 : ∀ w, (Instr.typeAssert (.iface 99 v) 69 101 true).run Tryz.prog w = .ok (.tuple #[.pointer none, .bool false]) w := fun _ => by kernel_rfl
    go_enter Tryz.func271, Tryz.ntmps271
    go_wp2_with (fail)
    go_ret
    exact ⟨rfl, rfl⟩
  | 4, _, _ =>
    show Calls Tryz.prog 271 #[.pointer r, .iface 101 v] w fun e w' => e = .returned (.bool true) ∧ w' = w
    have t5 : ∀ w, (Instr.typeAssert (.iface 101 v) 69 103 true).run Tryz.prog w = .ok (.tuple #[.pointer none, .bool false]) w := fun _ => by kernel_rfl
    have t4 : ∀ w, (Instr.typeAssert (.iface 101 v) 69 101 true).run Tryz.prog w = .ok (.tuple #[v, .bool true]) w := fun _ => by kernel_rfl
    go_enter Tryz.func271, Tryz.ntmps271
    go_wp2_with (fail)
    go_ret
    exact ⟨rfl, rfl⟩
  | 5, _, _ =>
    show Calls Tryz.prog 271 #[.pointer r, .iface 103 v] w fun e w' => e = .returned (.bool true) ∧ w' = w
    have t5 : ∀ w, (Instr.typeAssert (.iface 103 v) 69 103 true).run Tryz.prog w = .ok (.tuple #[v, .bool true]) w := fun _ => by kernel_rfl
    go_enter Tryz.func271, Tryz.ntmps271
    go_wp2_with (fail)
    go_ret
    exact ⟨rfl, rfl⟩
  | 6, _, _ =>
    show Calls Tryz.prog 271 #[.pointer r, .iface 105 v] w fun e w' => e = .returned (.bool false) ∧ w' = w
    have t5 : ∀ w, (Instr.typeAssert (.iface 105 v) 69 103 true).run Tryz.prog w = .ok (.tuple #[.pointer none, .bool false]) w := fun _ => by kernel_rfl
    have t4 : ∀ w, (Instr.typeAssert (.iface 105 v) 69 101 true).run Tryz.prog w = .ok (.tuple #[.pointer none, .bool false]) w := fun _ => by kernel_rfl
    go_enter Tryz.func271, Tryz.ntmps271
    go_wp2_with (fail)
    go_ret
    exact ⟨rfl, rfl⟩
  | 7, _, _ =>
    show Calls Tryz.prog 271 #[.pointer r, .iface 107 v] w fun e w' => e = .returned (.bool false) ∧ w' = w
    have t5 : ∀ w, (Instr.typeAssert (.iface 107 v) 69 103 true).run Tryz.prog w = .ok (.tuple #[.pointer none, .bool false]) w := fun _ => by kernel_rfl
    have t4 : ∀ w, (Instr.typeAssert (.iface 107 v) 69 101 true).run Tryz.prog w = .ok (.tuple #[.pointer none, .bool false]) w := fun _ => by kernel_rfl
    go_enter Tryz.func271, Tryz.ntmps271
    go_wp2_with (fail)
    go_ret
    exact ⟨rfl, rfl⟩
  | 8, _, _ =>
    show Calls Tryz.prog 271 #[.pointer r, .iface 109 v] w fun e w' => e = .returned (.bool false) ∧ w' = w
    have t5 : ∀ w, (Instr.typeAssert (.iface 109 v) 69 103 true).run Tryz.prog w = .ok (.tuple #[.pointer none, .bool false]) w := fun _ => by kernel_rfl
    have t4 : ∀ w, (Instr.typeAssert (.iface 109 v) 69 101 true).run Tryz.prog w = .ok (.tuple #[.pointer none, .bool false]) w := fun _ => by kernel_rfl
    go_enter Tryz.func271, Tryz.ntmps271
    go_wp2_with (fail)
    go_ret
    exact ⟨rfl, rfl⟩
  | 9, _, _ =>
    show Calls Tryz.prog 271 #[.pointer r, .iface 111 v] w fun e w' => e = .returned (.bool false) ∧ w' = w
    have t5 : ∀ w, (Instr.typeAssert (.iface 111 v) 69 103 true).run Tryz.prog w = .ok (.tuple #[.pointer none, .bool false]) w := fun _ => by kernel_rfl
    have t4 : ∀ w, (Instr.typeAssert (.iface 111 v) 69 101 true).run Tryz.prog w = .ok (.tuple #[.pointer none, .bool false]) w := fun _ => by kernel_rfl
    go_enter Tryz.func271, Tryz.ntmps271
    go_wp2_with (fail)
    go_ret
    exact ⟨rfl, rfl⟩
  | 10, _, _ =>
    show Calls Tryz.prog 271 #[.pointer r, .iface 113 v] w fun e w' => e = .returned (.bool false) ∧ w' = w
    have t5 : ∀ w, (Instr.typeAssert (.iface 113 v) 69 103 true).run Tryz.prog w = .ok (.tuple #[.pointer none, .bool false]) w := fun _ => by kernel_rfl
    have t4 : ∀ w, (Instr.typeAssert (.iface 113 v) 69 101 true).run Tryz.prog w = .ok (.tuple #[.pointer none, .bool false]) w := fun _ => by kernel_rfl
    go_enter Tryz.func271, Tryz.ntmps271
    go_wp2_with (fail)
    go_ret
    exact ⟨rfl, rfl⟩
  | 11, _, _ =>
    show Calls Tryz.prog 271 #[.pointer r, .iface 115 v] w fun e w' => e = .returned (.bool false) ∧ w' = w
    have t5 : ∀ w, (Instr.typeAssert (.iface 115 v) 69 103 true).run Tryz.prog w = .ok (.tuple #[.pointer none, .bool false]) w := fun _ => by kernel_rfl
    have t4 : ∀ w, (Instr.typeAssert (.iface 115 v) 69 101 true).run Tryz.prog w = .ok (.tuple #[.pointer none, .bool false]) w := fun _ => by kernel_rfl
    go_enter Tryz.func271, Tryz.ntmps271
    go_wp2_with (fail)
    go_ret
    exact ⟨rfl, rfl⟩
set_option maxRecDepth 100000 in
theorem is_6 (j : Nat) (h1 : 1 ≤ j) (h2 : j ≤ 11) (r : Option Addr) (v : Value) (w : World) : Calls Tryz.prog 273 #[.pointer r, .iface (ptT j) v] w fun e w' => e = .returned (.bool (isB 6 j)) ∧ w' = w := by
  match j, h1, h2 with
  | 1, _, _ =>
    show Calls Tryz.prog 273 #[.pointer r, .iface 94 v] w fun e w' => e = .returned (.bool false) ∧ w' = w
    have t6 : ∀ w, (Instr.typeAssert (.iface 94 v) 69 105 true).run Tryz.prog w = .ok (.tuple #[.pointer none, .bool false]) w := fun _ => by kernel_rfl
    have t5 : ∀ w, (Instr.typeAssert (.iface 94 v) 69 103 true).run Tryz.prog w = .ok (.tuple #[.pointer none, .bool false]) w := fun _ => by kernel_rfl
    have t4 : ∀ w, (Instr.typeAssert (.iface 94 v) 69 101 true).run Tryz.prog w = .ok (.tuple #[.pointer none, .bool false]) w := fun _ => by kernel_rfl
    go_enter Tryz.func273, Tryz.ntmps273
    go_wp2_with (fail)
    go_ret
    exact ⟨rfl, rfl⟩
  | 2, _, _ =>
    show Calls Tryz.prog 273 #[.pointer r, .iface 97 v] w fun e w' => e = .returned (.bool false) ∧ w' = w
    have t6 : ∀ w, (Instr.typeAssert (.iface 97 v) 69 105 true).run Tryz.prog w = .ok (.tuple #[.pointer none, .bool false]) w := fun _ => by kernel_rfl
    have t5 : ∀ w, (Instr.typeAssert (.iface 97 v) 69 103 true).run Tryz.prog w = .ok (.tuple #[.pointer none, .bool false]) w := fun _ => by kernel_rfl
    have t4 : ∀ w, (Instr.typeAssert (.iface 97 v) 69 101 true).run Tryz.prog w = .ok (.tuple #[.pointer none, .bool false]) w := fun _ => by kernel_rfl
    go_enter Tryz.func273, Tryz.ntmps273
    go_wp2_with (fail)
    go_ret
    exact ⟨rfl, rfl⟩
  | 3, _, _ =>
    show Calls Tryz.prog 273 #[.pointer r, .iface 99 v] w fun e w' => e = .returned (.bool false) ∧ w' = w
    have t6 : ∀ w, (Instr.typeAssert (.iface 99 v) 69 105 true).run Tryz.prog w = .ok (.tuple #[.pointer none, .bool false]) w := fun _ => by kernel_rfl
    have t5 : ∀ w, (Instr.typeAssert (.iface 99 v) 69 103 true).run Tryz.prog w = .ok (.tuple #[.pointer none, .bool false]) w := fun _ => by kernel_rfl
    have t4 : ∀ w, (Instr.typeAssert (.iface 99 v) 69 101 true).run Tryz.prog w = .ok (.tuple #[.pointer none, .bool false]) w := fun _ => by kernel_rfl
    go_enter Tryz.func273, Tryz.ntmps273
    go_wp2_with (fail)
    go_ret
    exact ⟨rfl, rfl⟩
  | 4, _, _ =>
    show Calls Tryz.prog 273 #[.pointer r, .iface 101 v] w fun e w' => e = .returned (.bool true) ∧ w' = w
    have t6 : ∀ w, (Instr.typeAssert (.iface 101 v) 69 105 true).run Tryz.prog w = .ok (.tuple #[.pointer none, .bool false]) w := fun _ => by kernel_rfl
    have t5 : ∀ w, (Instr.typeAssert (.iface 101 v) 69 103 true).run Tryz.prog w = .ok (.tuple #[.pointer none, .bool false]) w := fun _ => by kernel_rfl
    have t4 : ∀ w, (Instr.typeAssert (.iface 101 v) 69 101 true).run Tryz.prog w = .ok (.tuple #[v, .bool true]) w := fun _ => by kernel_rfl
    go_enter Tryz.func273, Tryz.ntmps273
    go_wp2_with (fail)
    go_ret
    exact ⟨rfl, rfl⟩
  | 5, _, _ =>
    show Calls Tryz.prog 273 #[.pointer r, .iface 103 v] w fun e w' => e = .returned (.bool true) ∧ w' = w
    have t6 : ∀ w, (Instr.typeAssert (.iface 103 v) 69 105 true).run Tryz.prog w = .ok (.tuple #[.pointer none, .bool false]) w := fun _ => by kernel_rfl
    have t5 : ∀ w, (Instr.typeAssert (.iface 103 v) 69 103 true).run Tryz.prog w = .ok (.tuple #[v, .bool true]) w := fun _ => by kernel_rfl
    go_enter Tryz.func273, Tryz.ntmps273
    go_wp2_with (fail)
    go_ret
    exact ⟨rfl, rfl⟩
  | 6, _, _ =>
    show Calls Tryz.prog 273 #[.pointer r, .iface 105 v] w fun e w' => e = .returned (.bool true) ∧ w' = w
    have t6 : ∀ w, (Instr.typeAssert (.iface 105 v) 69 105 true).run Tryz.prog w = .ok (.tuple #[v, .bool true]) w := fun _ => by kernel_rfl
    go_enter Tryz.func273, Tryz.ntmps273
    go_wp2_with (fail)
    go_ret
    exact ⟨rfl, rfl⟩
  | 7, _, _ =>
    show Calls Tryz.prog 273 #[.pointer r, .iface 107 v] w fun e w' => e = .returned (.bool false) ∧ w' = w
    have t6 : ∀ w, (Instr.typeAssert (.iface 107 v) 69 105 true).run Tryz.prog w = .ok (.tuple #[.pointer none, .bool false]) w := fun _ => by kernel_rfl
    have t5 : ∀ w, (Instr.typeAssert (.iface 107 v) 69 103 true).run Tryz.prog w = .ok (.tuple #[.pointer none, .bool false]) w := fun _ => by kernel_rfl
    have t4 : ∀ w, (Instr.typeAssert (.iface 107 v) 69 101 true).run Tryz.prog w = .ok (.tuple #[.pointer none, .bool false]) w := fun _ => by kernel_rfl
    go_enter Tryz.func273, Tryz.ntmps273
    go_wp2_with (fail)
    go_ret
    exact ⟨rfl, rfl⟩
  | 8, _, _ =>
    show Calls Tryz.prog 273 #[.pointer r, .iface 109 v] w fun e w' => e = .returned (.bool false) ∧ w' = w
    have t6 : ∀ w, (Instr.typeAssert (.iface 109 v) 69 105 true).run Tryz.prog w = .ok (.tuple #[.pointer none, .bool false]) w := fun _ => by kernel_rfl
    have t5 : ∀ w, (Instr.typeAssert (.iface 109 v) 69 103 true).run Tryz.prog w = .ok (.tuple #[.pointer none, .bool false]) w := fun _ => by kernel_rfl
    have t4 : ∀ w, (Instr.typeAssert (.iface 109 v) 69 101 true).run Tryz.prog w = .ok (.tuple #[.pointer none, .bool false]) w := fun _ => by kernel_rfl
    go_enter Tryz.func273, Tryz.ntmps273
    go_wp2_with (fail)
    go_ret
    exact ⟨rfl, rfl⟩
  | 9, _, _ =>
    show Calls Tryz.prog 273 #[.pointer r, .iface 111 v] w fun e w' => e = .returned (.bool false) ∧ w' = w
    have t6 : ∀ w, (Instr.typeAssert (.iface 111 v) 69 105 true).run Tryz.prog w = .ok (.tuple #[.pointer none, .bool false]) w := fun _ => by kernel_rfl
    have t5 : ∀ w, (Instr.typeAssert (.iface 111 v) 69 103 true).run Tryz.prog w = .ok (.tuple #[.pointer none, .bool false]) w := fun _ => by kernel_rfl
    have t4 : ∀ w, (Instr.typeAssert (.iface 111 v) 69 101 true).run Tryz.prog w = .ok (.tuple #[.pointer none, .bool false]) w := fun _ => by kernel_rfl
    go_enter Tryz.func273, Tryz.ntmps273
    go_wp2_with (fail)
    go_ret
    exact ⟨rfl, rfl⟩
  | 10, _, _ =>
    show Calls Tryz.prog 273 #[.pointer r, .iface 113 v] w fun e w' => e = .returned (.bool false) ∧ w' = w
    have t6 : ∀ w, (Instr.typeAssert (.iface 113 v) 69 105 true).run Tryz.prog w = .ok (.tuple #[.pointer none, .bool false]) w := fun _ => by kernel_rfl
    have t5 : ∀ w, (Instr.typeAssert (.iface 113 v) 69 103 true).run Tryz.prog w = .ok (.tuple #[.pointer none, .bool false]) w := fun _ => by kernel_rfl
    have t4 : ∀ w, (Instr.typeAssert (.iface 113 v) 69 101 true).run Tryz.prog w = .ok (.tuple #[.pointer none, .bool false]) w := fun _ => by kernel_rfl
    go_enter Tryz.func273, Tryz.ntmps273
    go_wp2_with (fail)
    go_ret
    exact ⟨rfl, rfl⟩
  | 11, _, _ =>
    show Calls Tryz.prog 273 #[.pointer r, .iface 115 v] w fun e w' => e = .returned (.bool false) ∧ w' = w
    have t6 : ∀ w, (Instr.typeAssert (.iface 115 v) 69 105 true).run Tryz.prog w = .ok (.tuple #[.pointer none, .bool false]) w := fun _ => by kernel_rfl
    have t5 : ∀ w, (Instr.typeAssert (.iface 115 v) 69 103 true).run Tryz.prog w = .ok (.tuple #[.pointer none, .bool false]) w := fun _ => by kernel_rfl
    have t4 : ∀ w, (Instr.typeAssert (.iface 115 v) 69 101 true).run Tryz.prog w = .ok (.tuple #[.pointer none, .bool false]) w := fun _ => by kernel_rfl
    go_enter Tryz.func273, Tryz.ntmps273
    go_wp2_with (fail)
    go_ret
    exact ⟨rfl, rfl⟩
set_option maxRecDepth 100000 in
theorem is_7 (j : Nat) (h1 : 1 ≤ j) (h2 : j ≤ 11) (r : Option Addr) (v : Value) (w : World) : Calls Tryz.prog 275 #[.pointer r, .iface (ptT j) v] w fun e w' => e = .returned (.bool (isB 7 j)) ∧ w' = w := by
  match j, h1, h2 with
  | 1, _, _ =>
    show Calls Tryz.prog 275 #[.pointer r, .iface 94 v] w fun e w' => e = .returned (.bool false) ∧ w' = w
    have t7 : ∀ w, (Instr.typeAssert (.iface 94 v) 69 107 true).run Tryz.prog w = .ok (.tuple #[.pointer none, .bool false]) w := fun _ => by kernel_rfl
    have t4 : ∀ w, (Instr.typeAssert (.iface 94 v) 69 101 true).run Tryz.prog w = .ok (.tuple #[.pointer none, .bool false]) w := fun _ => by kernel_rfl
    go_enter Tryz.func275, Tryz.ntmps275
    go_wp2_with (fail)
    go_ret
    exact ⟨rfl, rfl⟩
  | 2, _, _ =>
    show Calls Tryz.prog 275 #[.pointer r, .iface 97 v] w fun e w' => e = .returned (.bool false) ∧ w' = w
    have t7 : ∀ w, (Instr.typeAssert (.iface 97 v) 69 107 true).run Tryz.prog w = .ok (.tuple #[.pointer none, .bool false]) w := fun _ => by kernel_rfl
    have t4 : ∀ w, (Instr.typeAssert (.iface 97 v) 69 101 true).run Tryz.prog w = .ok (.tuple #[.pointer none, .bool false]) w := fun _ => by kernel_rfl
    go_enter Tryz.func275, Tryz.ntmps275
    go_wp2_with (fail)
    go_ret
    exact ⟨rfl, rfl⟩
  | 3, _, _ =>
    show Calls Tryz.prog 275 #[.pointer r, .iface 99 v] w fun e w' => e = .returned (.bool false) ∧ w' = w
    have t7 : ∀ w, (Instr.typeAssert (.iface 99 v) 69 107 true).run Tryz.prog w = .ok (.tuple #[.pointer none, .bool false]) w := fun _ => by kernel_rfl
    have t4 : ∀ w, (Instr.typeAssert (.iface 99 v) 69 101 true).run Tryz.prog w = .ok (.tuple #[.pointer none, .bool false]) w := fun _ => by kernel_rfl
    go_enter Tryz.func275, Tryz.ntmps275
    go_wp2_with (fail)
    go_ret
    exact ⟨rfl, rfl⟩
  | 4, _, _ =>
    show Calls Tryz.prog 275 #[.pointer r, .iface 101 v] w fun e w' => e = .returned (.bool true) ∧ w' = w
    have t7 : ∀ w, (Instr.typeAssert (.iface 101 v) 69 107 true).run Tryz.prog w = .ok (.tuple #[.pointer none, .bool false]) w := fun _ => by kernel_rfl
    have t4 : ∀ w, (Instr.typeAssert (.iface 101 v) 69 101 true).run Tryz.prog w = .ok (.tuple #[v, .bool true]) w := fun _ => by kernel_rfl
    go_enter Tryz.func275, Tryz.ntmps275
    go_wp2_with (fail)
    go_ret
    exact ⟨rfl, rfl⟩
  | 5, _, _ =>
    show Calls Tryz.prog 275 #[.pointer r, .iface 103 v] w fun e w' => e = .returned (.bool false) ∧ w' = w
    have t7 : ∀ w, (Instr.typeAssert (.iface 103 v) 69 107 true).run Tryz.prog w = .ok (.tuple #[.pointer none, .bool false]) w := fun _ => by kernel_rfl
    have t4 : ∀ w, (Instr.typeAssert (.iface 103 v) 69 101 true).run Tryz.prog w = .ok (.tuple #[.pointer none, .bool false]) w := fun _ => by kernel_rfl
    go_enter Tryz.func275, Tryz.ntmps275
    go_wp2_with (fail)
    go_ret
    exact ⟨rfl, rfl⟩
  | 6, _, _ =>
    show Calls Tryz.prog 275 #[.pointer r, .iface 105 v] w fun e w' => e = .returned (.bool false) ∧ w' = w
    have t7 : ∀ w, (Instr.typeAssert (.iface 105 v) 69 107 true).run Tryz.prog w = .ok (.tuple #[.pointer none, .bool false]) w := fun _ => by kernel_rfl
    have t4 : ∀ w, (Instr.typeAssert (.iface 105 v) 69 101 true).run Tryz.prog w = .ok (.tuple #[.pointer none, .bool false]) w := fun _ => by kernel_rfl
    go_enter Tryz.func275, Tryz.ntmps275
    go_wp2_with (fail)
    go_ret
    exact ⟨rfl, rfl⟩
  | 7, _, _ =>
    show Calls Tryz.prog 275 #[.pointer r, .iface 107 v] w fun e w' => e = .returned (.bool true) ∧ w' = w
    have t7 : ∀ w, (Instr.typeAssert (.iface 107 v) 69 107 true).run Tryz.prog w = .ok (.tuple #[v, .bool true]) w := fun _ => by kernel_rfl
    go_enter Tryz.func275, Tryz.ntmps275
    go_wp2_with (fail)
    go_ret
    exact ⟨rfl, rfl⟩
  | 8, _, _ =>
    show Calls Tryz.prog 275 #[.pointer r, .iface 109 v] w fun e w' => e = .returned (.bool false) ∧ w' = w
    have t7 : ∀ w, (Instr.typeAssert (.iface 109 v) 69 107 true).run Tryz.prog w = .ok (.tuple #[.pointer none, .bool false]) w := fun _ => by kernel_rfl
    have t4 : ∀ w, (Instr.typeAssert (.iface 109 v) 69 101 true).run Tryz.prog w = .ok (.tuple #[.pointer none, .bool false]) w := fun _ => by kernel_rfl
    go_enter Tryz.func275, Tryz.ntmps275
    go_wp2_with (fail)
    go_ret
    exact ⟨rfl, rfl⟩
  | 9, _, _ =>
    show Calls Tryz.prog 275 #[.pointer r, .iface 111 v] w fun e w' => e = .returned (.bool false) ∧ w' = w
    have t7 : ∀ w, (Instr.typeAssert (.iface 111 v) 69 107 true).run Tryz.prog w = .ok (.tuple #[.pointer none, .bool false]) w := fun _ => by kernel_rfl
    have t4 : ∀ w, (Instr.typeAssert (.iface 111 v) 69 101 true).run Tryz.prog w = .ok (.tuple #[.pointer none, .bool false]) w := fun _ => by kernel_rfl
    go_enter Tryz.func275, Tryz.ntmps275
    go_wp2_with (fail)
    go_ret
    exact ⟨rfl, rfl⟩
  | 10, _, _ =>
    show Calls Tryz.prog 275 #[.pointer r, .iface 113 v] w fun e w' => e = .returned (.bool false) ∧ w' = w
    have t7 : ∀ w, (Instr.typeAssert (.iface 113 v) 69 107 true).run Tryz.prog w = .ok (.tuple #[.pointer none, .bool false]) w := fun _ => by kernel_rfl
    have t4 : ∀ w, (Instr.typeAssert (.iface 113 v) 69 101 true).run Tryz.prog w = .ok (.tuple #[.pointer none, .bool false]) w := fun _ => by kernel_rfl
    go_enter Tryz.func275, Tryz.ntmps275
    go_wp2_with (fail)
    go_ret
    exact ⟨rfl, rfl⟩
  | 11, _, _ =>
    show Calls Tryz.prog 275 #[.pointer r, .iface 115 v] w fun e w' => e = .returned (.bool false) ∧ w' = w
    have t7 : ∀ w, (Instr.typeAssert (.iface 115 v) 69 107 true).run Tryz.prog w = .ok (.tuple #[.pointer none, .bool false]) w := fun _ => by kernel_rfl
    have t4 : ∀ w, (Instr.typeAssert (.iface 115 v) 69 101 true).run Tryz.prog w = .ok (.tuple #[.pointer none, .bool false]) w := fun _ => by kernel_rfl
    go_enter Tryz.func275, Tryz.ntmps275
    go_wp2_with (fail)
    go_ret
    exact ⟨rfl, rfl⟩
set_option maxRecDepth 100000 in
theorem is_8 (j : Nat) (h1 : 1 ≤ j) (h2 : j ≤ 11) (r : Option Addr) (v : Value) (w : World) : Calls Tryz.prog 277 #[.pointer r, .iface (ptT j) v] w fun e w' => e = .returned (.bool (isB 8 j)) ∧ w' = w := by
  match j, h1, h2 with
  | 1, _, _ =>
    show Calls Tryz.prog 277 #[.pointer r, .iface 94 v] w fun e w' => e = .returned (.bool false) ∧ w' = w
    have t8 : ∀ w, (Instr.typeAssert (.iface 94 v) 69 109 true).run Tryz.prog w = .ok (.tuple #[.pointer none, .bool false]) w := fun _ => by kernel_rfl
    have t4 : ∀ w, (Instr.typeAssert (.iface 94 v) 69 101 true).run Tryz.prog w = .ok (.tuple #[.pointer none, .bool false]) w := fun _ => by kernel_rfl
    go_enter Tryz.func277, Tryz.ntmps277
    go_wp2_with (fail)
    go_ret
    exact ⟨rfl, rfl⟩
  | 2, _, _ =>
    show Calls Tryz.prog 277 #[.pointer r, .iface 97 v] w fun e w' => e = .returned (.bool false) ∧ w' = w
    have t8 : ∀ w, (Instr.typeAssert (.iface 97 v) 69 109 true).run Tryz.prog w = .ok (.tuple #[.pointer none, .bool false]) w := fun _ => by kernel_rfl
    have t4 : ∀ w, (Instr.typeAssert (.iface 97 v) 69 101 true).run Tryz.prog w = .ok (.tuple #[.pointer none, .bool false]) w := fun _ => by kernel_rfl
    go_enter Tryz.func277, Tryz.ntmps277
    go_wp2_with (fail)
    go_ret
    exact ⟨rfl, rfl⟩
  | 3, _, _ =>
    show Calls Tryz.prog 277 #[.pointer r, .iface 99 v] w fun e w' => e = .returned (.bool false) ∧ w' = w
    have t8 : ∀ w, (Instr.typeAssert (.iface 99 v) 69 109 true).run Tryz.prog w = .ok (.tuple #[.pointer none, .bool false]) w := fun _ => by kernel_rfl
    have t4 : ∀ w, (Instr.typeAssert (.iface 99 v) 69 101 true).run Tryz.prog w = .ok (.tuple #[.pointer none, .bool false]) w := fun _ => by kernel_rfl
    go_enter Tryz.func277, Tryz.ntmps277
    go_wp2_with (fail)
    go_ret
    exact ⟨rfl, rfl⟩
  | 4, _, _ =>
    show Calls Tryz.prog 277 #[.pointer r, .iface 101 v] w fun e w' => e = .returned (.bool true) ∧ w' = w
    have t8 : ∀ w, (Instr.typeAssert (.iface 101 v) 69 109 true).run Tryz.prog w = .ok (.tuple #[.pointer none, .bool false]) w := fun _ => by kernel_rfl
    have t4 : ∀ w, (Instr.typeAssert (.iface 101 v) 69 101 true).run Tryz.prog w = .ok (.tuple #[v, .bool true]) w := fun _ => by kernel_rfl
    go_enter Tryz.func277, Tryz.ntmps277
    go_wp2_with (fail)
    go_ret
    exact ⟨rfl, rfl⟩
  | 5, _, _ =>
    show Calls Tryz.prog 277 #[.pointer r, .iface 103 v] w fun e w' => e = .returned (.bool false) ∧ w' = w
    have t8 : ∀ w, (Instr.typeAssert (.iface 103 v) 69 109 true).run Tryz.prog w = .ok (.tuple #[.pointer none, .bool false]) w := fun _ => by kernel_rfl
    have t4 : ∀ w, (Instr.typeAssert (.iface 103 v) 69 101 true).run Tryz.prog w = .ok (.tuple #[.pointer none, .bool false]) w := fun _ => by kernel_rfl
    go_enter Tryz.func277, Tryz.ntmps277
    go_wp2_with (fail)
    go_ret
    exact ⟨rfl, rfl⟩
  | 6, _, _ =>
    show Calls Tryz.prog 277 #[.pointer r, .iface 105 v] w fun e w' => e = .returned (.bool false) ∧ w' = w
    have t8 : ∀ w, (Instr.typeAssert (.iface 105 v) 69 109 true).run Tryz.prog w = .ok (.tuple #[.pointer none, .bool false]) w := fun _ => by kernel_rfl
    have t4 : ∀ w, (Instr.typeAssert (.iface 105 v) 69 101 true).run Tryz.prog w = .ok (.tuple #[.pointer none, .bool false]) w := fun _ => by kernel_rfl
    go_enter Tryz.func277, Tryz.ntmps277
    go_wp2_with (fail)
    go_ret
    exact ⟨rfl, rfl⟩
  | 7, _, _ =>
    show Calls Tryz.prog 277 #[.pointer r, .iface 107 v] w fun e w' => e = .returned (.bool false) ∧ w' = w
    have t8 : ∀ w, (Instr.typeAssert (.iface 107 v) 69 109 true).run Tryz.prog w = .ok (.tuple #[.pointer none, .bool false]) w := fun _ => by kernel_rfl
    have t4 : ∀ w, (Instr.typeAssert (.iface 107 v) 69 101 true).run Tryz.prog w = .ok (.tuple #[.pointer none, .bool false]) w := fun _ => by kernel_rfl
    go_enter Tryz.func277, Tryz.ntmps277
    go_wp2_with (fail)
    go_ret
    exact ⟨rfl, rfl⟩
  | 8, _, _ =>
    show Calls Tryz.prog 277 #[.pointer r, .iface 109 v] w fun e w' => e = .returned (.bool true) ∧ w' = w
    have t8 : ∀ w, (Instr.typeAssert (.iface 109 v) 69 109 true).run Tryz.prog w = .ok (.tuple #[v, .bool true]) w := fun _ => by kernel_rfl
    go_enter Tryz.func277, Tryz.ntmps277
    go_wp2_with (fail)
    go_ret
    exact ⟨rfl, rfl⟩
  | 9, _, _ =>
    show Calls Tryz.prog 277 #[.pointer r, .iface 111 v] w fun e w' => e = .returned (.bool false) ∧ w' = w
    have t8 : ∀ w, (Instr.typeAssert (.iface 111 v) 69 109 true).run Tryz.prog w = .ok (.tuple #[.pointer none, .bool false]) w := fun _ => by kernel_rfl
    have t4 : ∀ w, (Instr.typeAssert (.iface 111 v) 69 101 true).run Tryz.prog w = .ok (.tuple #[.pointer none, .bool false]) w := fun _ => by kernel_rfl
    go_enter Tryz.func277, Tryz.ntmps277
    go_wp2_with (fail)
    go_ret
    exact ⟨rfl, rfl⟩
  | 10, _, _ =>
    show Calls Tryz.prog 277 #[.pointer r, .iface 113 v] w fun e w' => e = .returned (.bool false) ∧ w' = w
    have t8 : ∀ w, (Instr.typeAssert (.iface 113 v) 69 109 true).run Tryz.prog w = .ok (.tuple #[.pointer none, .bool false]) w := fun _ => by kernel_rfl
    have t4 : ∀ w, (Instr.typeAssert (.iface 113 v) 69 101 true).run Tryz.prog w = .ok (.tuple #[.pointer none, .bool false]) w := fun _ => by kernel_rfl
    go_enter Tryz.func277, Tryz.ntmps277
    go_wp2_with (fail)
    go_ret
    exact ⟨rfl, rfl⟩
  | 11, _, _ =>
    show Calls Tryz.prog 277 #[.pointer r, .iface 115 v] w fun e w' => e = .returned (.bool false) ∧ w' = w
    have t8 : ∀ w, (Instr.typeAssert (.iface 115 v) 69 109 true).run Tryz.prog w = .ok (.tuple #[.pointer none, .bool false]) w := fun _ => by kernel_rfl
    have t4 : ∀ w, (Instr.typeAssert (.iface 115 v) 69 101 true).run Tryz.prog w = .ok (.tuple #[.pointer none, .bool false]) w := fun _ => by kernel_rfl
    go_enter Tryz.func277, Tryz.ntmps277
    go_wp2_with (fail)
    go_ret
    exact ⟨rfl, rfl⟩
set_option maxRecDepth 100000 in
theorem is_9 (j : Nat) (h1 : 1 ≤ j) (h2 : j ≤ 11) (r : Option Addr) (v : Value) (w : World) : Calls Tryz.prog 279 #[.pointer r, .iface (ptT j) v] w fun e w' => e = .returned (.bool (isB 9 j)) ∧ w' = w := by
  match j, h1, h2 with
  | 1, _, _ =>
    show Calls Tryz.prog 279 #[.pointer r, .iface 94 v] w fun e w' => e = .returned (.bool false) ∧ w' = w
    have t9 : ∀ w, (Instr.typeAssert (.iface 94 v) 69 111 true).run Tryz.prog w = .ok (.tuple #[.pointer none, .bool false]) w := fun _ => by kernel_rfl
    go_enter Tryz.func279, Tryz.ntmps279
    go_wp2_with (fail)
    go_ret
    exact ⟨rfl, rfl⟩
  | 2, _, _ =>
    show Calls Tryz.prog 279 #[.pointer r, .iface 97 v] w fun e w' => e = .returned (.bool false) ∧ w' = w
    have t9 : ∀ w, (Instr.typeAssert (.iface 97 v) 69 111 true).run Tryz.prog w = .ok (.tuple #[.pointer none, .bool false]) w := fun _ => by kernel_rfl
    go_enter Tryz.func279, Tryz.ntmps279
    go_wp2_with (fail)
    go_ret
    exact ⟨rfl, rfl⟩
  | 3, _, _ =>
    show Calls Tryz.prog 279 #[.pointer r, .iface 99 v] w fun e w' => e = .returned (.bool false) ∧ w' = w
    have t9 : ∀ w, (Instr.typeAssert (.iface 99 v) 69 111 true).run Tryz.prog w = .ok (.tuple #[.pointer none, .bool false]) w := fun _ => by kernel_rfl
    go_enter Tryz.func279, Tryz.ntmps279
    go_wp2_with (fail)
    go_ret
    exact ⟨rfl, rfl⟩
  | 4, _, _ =>
    show Calls Tryz.prog 279 #[.pointer r, .iface 101 v] w fun e w' => e = .returned (.bool false) ∧ w' = w
    have t9 : ∀ w, (Instr.typeAssert (.iface 101 v) 69 111 true).run Tryz.prog w = .ok (.tuple #[.pointer none, .bool false]) w := fun _ => by kernel_rfl
    go_enter Tryz.func279, Tryz.ntmps279
    go_wp2_with (fail)
    go_ret
    exact ⟨rfl, rfl⟩
  | 5, _, _ =>
    show Calls Tryz.prog 279 #[.pointer r, .iface 103 v] w fun e w' => e = .returned (.bool false) ∧ w' = w
    have t9 : ∀ w, (Instr.typeAssert (.iface 103 v) 69 111 true).run Tryz.prog w = .ok (.tuple #[.pointer none, .bool false]) w := fun _ => by kernel_rfl
    go_enter Tryz.func279, Tryz.ntmps279
    go_wp2_with (fail)
    go_ret
    exact ⟨rfl, rfl⟩
  | 6, _, _ =>
    show Calls Tryz.prog 279 #[.pointer r, .iface 105 v] w fun e w' => e = .returned (.bool false) ∧ w' = w
    have t9 : ∀ w, (Instr.typeAssert (.iface 105 v) 69 111 true).run Tryz.prog w = .ok (.tuple #[.pointer none, .bool false]) w := fun _ => by kernel_rfl
    go_enter Tryz.func279, Tryz.ntmps279
    go_wp2_with (fail)
    go_ret
    exact ⟨rfl, rfl⟩
  | 7, _, _ =>
    show Calls Tryz.prog 279 #[.pointer r, .iface 107 v] w fun e w' => e = .returned (.bool false) ∧ w' = w
    have t9 : ∀ w, (Instr.typeAssert (.iface 107 v) 69 111 true).run Tryz.prog w = .ok (.tuple #[.pointer none, .bool false]) w := fun _ => by kernel_rfl
    go_enter Tryz.func279, Tryz.ntmps279
    go_wp2_with (fail)
    go_ret
    exact ⟨rfl, rfl⟩
  | 8, _, _ =>
    show Calls Tryz.prog 279 #[.pointer r, .iface 109 v] w fun e w' => e = .returned (.bool false) ∧ w' = w
    have t9 : ∀ w, (Instr.typeAssert (.iface 109 v) 69 111 true).run Tryz.prog w = .ok (.tuple #[.pointer none, .bool false]) w := fun _ => by kernel_rfl
    go_enter Tryz.func279, Tryz.ntmps279
    go_wp2_with (fail)
    go_ret
    exact ⟨rfl, rfl⟩
  | 9, _, _ =>
    show Calls Tryz.prog 279 #[.pointer r, .iface 111 v] w fun e w' => e = .returned (.bool true) ∧ w' = w
    have t9 : ∀ w, (Instr.typeAssert (.iface 111 v) 69 111 true).run Tryz.prog w = .ok (.tuple #[v, .bool true]) w := fun _ => by kernel_rfl
    go_enter Tryz.func279, Tryz.ntmps279
    go_wp2_with (fail)
    go_ret
    exact ⟨rfl, rfl⟩
  | 10, _, _ =>
    show Calls Tryz.prog 279 #[.pointer r, .iface 113 v] w fun e w' => e = .returned (.bool false) ∧ w' = w
    have t9 : ∀ w, (Instr.typeAssert (.iface 113 v) 69 111 true).run Tryz.prog w = .ok (.tuple #[.pointer none, .bool false]) w := fun _ => by kernel_rfl
    go_enter Tryz.func279, Tryz.ntmps279
    go_wp2_with (fail)
    go_ret
    exact ⟨rfl, rfl⟩
  | 11, _, _ =>
    show Calls Tryz.prog 279 #[.pointer r, .iface 115 v] w fun e w' => e = .returned (.bool false) ∧ w' = w
    have t9 : ∀ w, (Instr.typeAssert (.iface 115 v) 69 111 true).run Tryz.prog w = .ok (.tuple #[.pointer none, .bool false]) w := fun _ => by kernel_rfl
    go_enter Tryz.func279, Tryz.ntmps279
    go_wp2_with (fail)
    go_ret
    exact ⟨rfl, rfl⟩
set_option maxRecDepth 100000 in
theorem is_10 (j : Nat) (h1 : 1 ≤ j) (h2 : j ≤ 11) (r : Option Addr) (v : Value) (w : World) : Calls Tryz.prog 281 #[.pointer r, .iface (ptT j) v] w fun e w' => e = .returned (.bool (isB 10 j)) ∧ w' = w := by
  match j, h1, h2 with
  | 1, _, _ =>
    show Calls Tryz.prog 281 #[.pointer r, .iface 94 v] w fun e w' => e = .returned (.bool false) ∧ w' = w
    have t10 : ∀ w, (Instr.typeAssert (.iface 94 v) 69 113 true).run Tryz.prog w = .ok (.tuple #[.pointer none, .bool false]) w := fun _ => by kernel_rfl
    go_enter Tryz.func281, Tryz.ntmps281
    go_wp2_with (fail)
    go_ret
    exact ⟨rfl, rfl⟩
  | 2, _, _ =>
    show Calls Tryz.prog 281 #[.pointer r, .iface 97 v] w fun e w' => e = .returned (.bool false) ∧ w' = w
    have t10 : ∀ w, (Instr.typeAssert (.iface 97 v) 69 113 true).run Tryz.prog w = .ok (.tuple #[.pointer none, .bool false]) w := fun _ => by kernel_rfl
    go_enter Tryz.func281, Tryz.ntmps281
    go_wp2_with (fail)
    go_ret
    exact ⟨rfl, rfl⟩
  | 3, _, _ =>
    show Calls Tryz.prog 281 #[.pointer r, .iface 99 v] w fun e w' => e = .returned (.bool false) ∧ w' = w
    have t10 : ∀ w, (Instr.typeAssert (.iface 99 v) 69 113 true).run Tryz.prog w = .ok (.tuple #[.pointer none, .bool false]) w := fun _ => by kernel_rfl
    go_enter Tryz.func281, Tryz.ntmps281
    go_wp2_with (fail)
    go_ret
    exact ⟨rfl, rfl⟩
  | 4, _, _ =>
    show Calls Tryz.prog 281 #[.pointer r, .iface 101 v] w fun e w' => e = .returned (.bool false) ∧ w' = w
    have t10 : ∀ w, (Instr.typeAssert (.iface 101 v) 69 113 true).run Tryz.prog w = .ok (.tuple #[.pointer none, .bool false]) w := fun _ => by kernel_rfl
    go_enter Tryz.func281, Tryz.ntmps281
    go_wp2_with (fail)
    go_ret
    exact ⟨rfl, rfl⟩
  | 5, _, _ =>
    show Calls Tryz.prog 281 #[.pointer r, .iface 103 v] w fun e w' => e = .returned (.bool false) ∧ w' = w
    have t10 : ∀ w, (Instr.typeAssert (.iface 103 v) 69 113 true).run Tryz.prog w = .ok (.tuple #[.pointer none, .bool false]) w := fun _ => by kernel_rfl
    go_enter Tryz.func281, Tryz.ntmps281
    go_wp2_with (fail)
    go_ret
    exact ⟨rfl, rfl⟩
  | 6, _, _ =>
    show Calls Tryz.prog 281 #[.pointer r, .iface 105 v] w fun e w' => e = .returned (.bool false) ∧ w' = w
    have t10 : ∀ w, (Instr.typeAssert (.iface 105 v) 69 113 true).run Tryz.prog w = .ok (.tuple #[.pointer none, .bool false]) w := fun _ => by kernel_rfl
    go_enter Tryz.func281, Tryz.ntmps281
    go_wp2_with (fail)
    go_ret
    exact ⟨rfl, rfl⟩
  | 7, _, _ =>
    show Calls Tryz.prog 281 #[.pointer r, .iface 107 v] w fun e w' => e = .returned (.bool false) ∧ w' = w
    have t10 : ∀ w, (Instr.typeAssert (.iface 107 v) 69 113 true).run Tryz.prog w = .ok (.tuple #[.pointer none, .bool false]) w := fun _ => by kernel_rfl
    go_enter Tryz.func281, Tryz.ntmps281
    go_wp2_with (fail)
    go_ret
    exact ⟨rfl, rfl⟩
  | 8, _, _ =>
    show Calls Tryz.prog 281 #[.pointer r, .iface 109 v] w fun e w' => e = .returned (.bool false) ∧ w' = w
    have t10 : ∀ w, (Instr.typeAssert (.iface 109 v) 69 113 true).run Tryz.prog w = .ok (.tuple #[.pointer none, .bool false]) w := fun _ => by kernel_rfl
    go_enter Tryz.func281, Tryz.ntmps281
    go_wp2_with (fail)
    go_ret
    exact ⟨rfl, rfl⟩
  | 9, _, _ =>
    show Calls Tryz.prog 281 #[.pointer r, .iface 111 v] w fun e w' => e = .returned (.bool false) ∧ w' = w
    have t10 : ∀ w, (Instr.typeAssert (.iface 111 v) 69 113 true).run Tryz.prog w = .ok (.tuple #[.pointer none, .bool false]) w := fun _ => by kernel_rfl
    go_enter Tryz.func281, Tryz.ntmps281
    go_wp2_with (fail)
    go_ret
    exact ⟨rfl, rfl⟩
  | 10, _, _ =>
    show Calls Tryz.prog 281 #[.pointer r, .iface 113 v] w fun e w' => e = .returned (.bool true) ∧ w' = w
    have t10 : ∀ w, (Instr.typeAssert (.iface 113 v) 69 113 true).run Tryz.prog w = .ok (.tuple #[v, .bool true]) w := fun _ => by kernel_rfl
    go_enter Tryz.func281, Tryz.ntmps281
    go_wp2_with (fail)
    go_ret
    exact ⟨rfl, rfl⟩
  | 11, _, _ =>
    show Calls Tryz.prog 281 #[.pointer r, .iface 115 v] w fun e w' => e = .returned (.bool false) ∧ w' = w
    have t10 : ∀ w, (Instr.typeAssert (.iface 115 v) 69 113 true).run Tryz.prog w = .ok (.tuple #[.pointer none, .bool false]) w := fun _ => by kernel_rfl
    go_enter Tryz.func281, Tryz.ntmps281
    go_wp2_with (fail)
    go_ret
    exact ⟨rfl, rfl⟩
set_option maxRecDepth 100000 in
theorem is_11 (j : Nat) (h1 : 1 ≤ j) (h2 : j ≤ 11) (r : Option Addr) (v : Value) (w : World) : Calls Tryz.prog 283 #[.pointer r, .iface (ptT j) v] w fun e w' => e = .returned (.bool (isB 11 j)) ∧ w' = w := by
  match j, h1, h2 with
  | 1, _, _ =>
    show Calls Tryz.prog 283 #[.pointer r, .iface 94 v] w fun e w' => e = .returned (.bool false) ∧ w' = w
    have t11 : ∀ w, (Instr.typeAssert (.iface 94 v) 69 115 true).run Tryz.prog w = .ok (.tuple #[.pointer none, .bool false]) w := fun _ => by kernel_rfl
    have t10 : ∀ w, (Instr.typeAssert (.iface 94 v) 69 113 true).run Tryz.prog w = .ok (.tuple #[.pointer none, .bool false]) w := fun _ => by kernel_rfl
    go_enter Tryz.func283, Tryz.ntmps283
    go_wp2_with (fail)
    go_ret
    exact ⟨rfl, rfl⟩
  | 2, _, _ =>
    show Calls Tryz.prog 283 #[.pointer r, .iface 97 v] w fun e w' => e = .returned (.bool false) ∧ w' = w
    have t11 : ∀ w, (Instr.typeAssert (.iface 97 v) 69 115 true).run Tryz.prog w = .ok (.tuple #[.pointer none, .bool false]) w := fun _ => by kernel_rfl
    have t10 : ∀ w, (Instr.typeAssert (.iface 97 v) 69 113 true).run Tryz.prog w = .ok (.tuple #[.pointer none, .bool false]) w := fun _ => by kernel_rfl
    go_enter Tryz.func283, Tryz.ntmps283
    go_wp2_with (fail)
    go_ret
    exact ⟨rfl, rfl⟩
  | 3, _, _ =>
    show Calls Tryz.prog 283 #[.pointer r, .iface 99 v] w fun e w' => e = .returned (.bool false) ∧ w' = w
    have t11 : ∀ w, (Instr.typeAssert (.iface 99 v) 69 115 true).run Tryz.prog w = .ok (.tuple #[.pointer none, .bool false]) w := fun _ => by kernel_rfl
    have t10 : ∀ w, (Instr.typeAssert (.iface 99 v) 69 113 true).run Tryz.prog w = .ok (.tuple #[.pointer none, .bool false]) w := fun _ => by kernel_rfl
    go_enter Tryz.func283, Tryz.ntmps283
    go_wp2_with (fail)
    go_ret
    exact ⟨rfl, rfl⟩
  | 4, _, _ =>
    show Calls Tryz.prog 283 #[.pointer r, .iface 101 v] w fun e w' => e = .returned (.bool false) ∧ w' = w
    have t11 : ∀ w, (Instr.typeAssert (.iface 101 v) 69 115 true).run Tryz.prog w = .ok (.tuple #[.pointer none, .bool false]) w := fun _ => by kernel_rfl
    have t10 : ∀ w, (Instr.typeAssert (.iface 101 v) 69 113 true).run Tryz.prog w = .ok (.tuple #[.pointer none, .bool false]) w := fun _ => by kernel_rfl
    go_enter Tryz.func283, Tryz.ntmps283
    go_wp2_with (fail)
    go_ret
    exact ⟨rfl, rfl⟩
  | 5, _, _ =>
    show Calls Tryz.prog 283 #[.pointer r, .iface 103 v] w fun e w' => e = .returned (.bool false) ∧ w' = w
    have t11 : ∀ w, (Instr.typeAssert (.iface 103 v) 69 115 true).run Tryz.prog w = .ok (.tuple #[.pointer none, .bool false]) w := fun _ => by kernel_rfl
    have t10 : ∀ w, (Instr.typeAssert (.iface 103 v) 69 113 true).run Tryz.prog w = .ok (.tuple #[.pointer none, .bool false]) w := fun _ => by kernel_rfl
    go_enter Tryz.func283, Tryz.ntmps283
    go_wp2_with (fail)
    go_ret
    exact ⟨rfl, rfl⟩
  | 6, _, _ =>
    show Calls Tryz.prog 283 #[.pointer r, .iface 105 v] w fun e w' => e = .returned (.bool false) ∧ w' = w
    have t11 : ∀ w, (Instr.typeAssert (.iface 105 v) 69 115 true).run Tryz.prog w = .ok (.tuple #[.pointer none, .bool false]) w := fun _ => by kernel_rfl
    have t10 : ∀ w, (Instr.typeAssert (.iface 105 v) 69 113 true).run Tryz.prog w = .ok (.tuple #[.pointer none, .bool false]) w := fun _ => by kernel_rfl
    go_enter Tryz.func283, Tryz.ntmps283
    go_wp2_with (fail)
    go_ret
    exact ⟨rfl, rfl⟩
  | 7, _, _ =>
    show Calls Tryz.prog 283 #[.pointer r, .iface 107 v] w fun e w' => e = .returned (.bool false) ∧ w' = w
    have t11 : ∀ w, (Instr.typeAssert (.iface 107 v) 69 115 true).run Tryz.prog w = .ok (.tuple #[.pointer none, .bool false]) w := fun _ => by kernel_rfl
    have t10 : ∀ w, (Instr.typeAssert (.iface 107 v) 69 113 true).run Tryz.prog w = .ok (.tuple #[.pointer none, .bool false]) w := fun _ => by kernel_rfl
    go_enter Tryz.func283, Tryz.ntmps283
    go_wp2_with (fail)
    go_ret
    exact ⟨rfl, rfl⟩
  | 8, _, _ =>
    show Calls Tryz.prog 283 #[.pointer r, .iface 109 v] w fun e w' => e = .returned (.bool false) ∧ w' = w
    have t11 : ∀ w, (Instr.typeAssert (.iface 109 v) 69 115 true).run Tryz.prog w = .ok (.tuple #[.pointer none, .bool false]) w := fun _ => by kernel_rfl
    have t10 : ∀ w, (Instr.typeAssert (.iface 109 v) 69 113 true).run Tryz.prog w = .ok (.tuple #[.pointer none, .bool false]) w := fun _ => by kernel_rfl
    go_enter Tryz.func283, Tryz.ntmps283
    go_wp2_with (fail)
    go_ret
    exact ⟨rfl, rfl⟩
  | 9, _, _ =>
    show Calls Tryz.prog 283 #[.pointer r, .iface 111 v] w fun e w' => e = .returned (.bool false) ∧ w' = w
    have t11 : ∀ w, (Instr.typeAssert (.iface 111 v) 69 115 true).run Tryz.prog w = .ok (.tuple #[.pointer none, .bool false]) w := fun _ => by kernel_rfl
    have t10 : ∀ w, (Instr.typeAssert (.iface 111 v) 69 113 true).run Tryz.prog w = .ok (.tuple #[.pointer none, .bool false]) w := fun _ => by kernel_rfl
    go_enter Tryz.func283, Tryz.ntmps283
    go_wp2_with (fail)
    go_ret
    exact ⟨rfl, rfl⟩
  | 10, _, _ =>
    show Calls Tryz.prog 283 #[.pointer r, .iface 113 v] w fun e w' => e = .returned (.bool true) ∧ w' = w
    have t11 : ∀ w, (Instr.typeAssert (.iface 113 v) 69 115 true).run Tryz.prog w = .ok (.tuple #[.pointer none, .bool false]) w := fun _ => by kernel_rfl
    have t10 : ∀ w, (Instr.typeAssert (.iface 113 v) 69 113 true).run Tryz.prog w = .ok (.tuple #[v, .bool true]) w := fun _ => by kernel_rfl
    go_enter Tryz.func283, Tryz.ntmps283
    go_wp2_with (fail)
    go_ret
    exact ⟨rfl, rfl⟩
  | 11, _, _ =>
    show Calls Tryz.prog 283 #[.pointer r, .iface 115 v] w fun e w' => e = .returned (.bool true) ∧ w' = w
    have t11 : ∀ w, (Instr.typeAssert (.iface 115 v) 69 115 true).run Tryz.prog w = .ok (.tuple #[v, .bool true]) w := fun _ => by kernel_rfl
    go_enter Tryz.func283, Tryz.ntmps283
    go_wp2_with (fail)
    go_ret
    exact ⟨rfl, rfl⟩
set_option maxRecDepth 100000 in
theorem errorOf_1 (w : World) : Calls Tryz.prog 41 #[.int .i64 1] w fun e w' => e = .returned (.iface 94 (.pointer (some ⟨w.heap.size, 0, none⟩))) ∧ w' = w.alloc (.cells #[.string ⟨#[]⟩] 96) := by
  go_enter Tryz.func41, Tryz.ntmps41
  go_wp2_with (fail)
  go_ret
  exact ⟨rfl, rfl⟩
set_option maxRecDepth 100000 in
theorem errorOf_2 (w : World) : Calls Tryz.prog 41 #[.int .i64 2] w fun e w' => e = .returned (.iface 97 (.pointer (some ⟨w.heap.size, 0, none⟩))) ∧ w' = w.alloc (.cells #[.string ⟨#[]⟩] 98) := by
  go_enter Tryz.func41, Tryz.ntmps41
  go_wp2_with (fail)
  go_ret
  exact ⟨rfl, rfl⟩
set_option maxRecDepth 100000 in
theorem errorOf_3 (w : World) : Calls Tryz.prog 41 #[.int .i64 3] w fun e w' => e = .returned (.iface 99 (.pointer (some ⟨w.heap.size, 0, none⟩))) ∧ w' = w.alloc (.cells #[.string ⟨#[]⟩] 100) := by
  go_enter Tryz.func41, Tryz.ntmps41
  go_wp2_with (fail)
  go_ret
  exact ⟨rfl, rfl⟩
set_option maxRecDepth 100000 in
theorem errorOf_4 (w : World) : Calls Tryz.prog 41 #[.int .i64 4] w fun e w' => e = .returned (.iface 101 (.pointer (some ⟨w.heap.size, 0, none⟩))) ∧ w' = w.alloc (.cells #[.string ⟨#[]⟩] 102) := by
  go_enter Tryz.func41, Tryz.ntmps41
  go_wp2_with (fail)
  go_ret
  exact ⟨rfl, rfl⟩
set_option maxRecDepth 100000 in
theorem errorOf_5 (w : World) : Calls Tryz.prog 41 #[.int .i64 5] w fun e w' => e = .returned (.iface 103 (.pointer (some ⟨w.heap.size, 0, none⟩))) ∧ w' = w.alloc (.cells #[.string ⟨#[]⟩] 104) := by
  go_enter Tryz.func41, Tryz.ntmps41
  go_wp2_with (fail)
  go_ret
  exact ⟨rfl, rfl⟩
set_option maxRecDepth 100000 in
theorem errorOf_6 (w : World) : Calls Tryz.prog 41 #[.int .i64 6] w fun e w' => e = .returned (.iface 105 (.pointer (some ⟨w.heap.size, 0, none⟩))) ∧ w' = w.alloc (.cells #[.string ⟨#[]⟩] 106) := by
  go_enter Tryz.func41, Tryz.ntmps41
  go_wp2_with (fail)
  go_ret
  exact ⟨rfl, rfl⟩
set_option maxRecDepth 100000 in
theorem errorOf_7 (w : World) : Calls Tryz.prog 41 #[.int .i64 7] w fun e w' => e = .returned (.iface 107 (.pointer (some ⟨w.heap.size, 0, none⟩))) ∧ w' = w.alloc (.cells #[.string ⟨#[]⟩] 108) := by
  go_enter Tryz.func41, Tryz.ntmps41
  go_wp2_with (fail)
  go_ret
  exact ⟨rfl, rfl⟩
set_option maxRecDepth 100000 in
theorem errorOf_8 (w : World) : Calls Tryz.prog 41 #[.int .i64 8] w fun e w' => e = .returned (.iface 109 (.pointer (some ⟨w.heap.size, 0, none⟩))) ∧ w' = w.alloc (.cells #[.string ⟨#[]⟩] 110) := by
  go_enter Tryz.func41, Tryz.ntmps41
  go_wp2_with (fail)
  go_ret
  exact ⟨rfl, rfl⟩
set_option maxRecDepth 100000 in
theorem errorOf_9 (w : World) : Calls Tryz.prog 41 #[.int .i64 9] w fun e w' => e = .returned (.iface 111 (.pointer (some ⟨w.heap.size, 0, none⟩))) ∧ w' = w.alloc (.cells #[.string ⟨#[]⟩] 112) := by
  go_enter Tryz.func41, Tryz.ntmps41
  go_wp2_with (fail)
  go_ret
  exact ⟨rfl, rfl⟩
set_option maxRecDepth 100000 in
theorem errorOf_10 (w : World) : Calls Tryz.prog 41 #[.int .i64 10] w fun e w' => e = .returned (.iface 113 (.pointer (some ⟨w.heap.size, 0, none⟩))) ∧ w' = w.alloc (.cells #[.string ⟨#[]⟩] 114) := by
  go_enter Tryz.func41, Tryz.ntmps41
  go_wp2_with (fail)
  go_ret
  exact ⟨rfl, rfl⟩
set_option maxRecDepth 100000 in
theorem errorOf_11 (w : World) : Calls Tryz.prog 41 #[.int .i64 11] w fun e w' => e = .returned (.iface 115 (.pointer (some ⟨w.heap.size, 0, none⟩))) ∧ w' = w.alloc (.cells #[.string ⟨#[]⟩] 116) := by
  go_enter Tryz.func41, Tryz.ntmps41
  go_wp2_with (fail)
  go_ret
  exact ⟨rfl, rfl⟩
theorem errorOf_any (j : Nat) (h1 : 1 ≤ j) (h2 : j ≤ 11) (w : World) : Calls Tryz.prog 41 #[.int .i64 j] w fun e w' => e = .returned (.iface (ptT j) (.pointer (some ⟨w.heap.size, 0, none⟩))) ∧ Below w.heap.size w w' := by
  match j, h1, h2 with
  | 1, _, _ => exact (errorOf_1 w).mono fun e w' ⟨he, hw⟩ => ⟨he, by rw [hw]; exact (Below.refl _ _).alloc (Nat.le_refl _) _⟩
  | 2, _, _ => exact (errorOf_2 w).mono fun e w' ⟨he, hw⟩ => ⟨he, by rw [hw]; exact (Below.refl _ _).alloc (Nat.le_refl _) _⟩
  | 3, _, _ => exact (errorOf_3 w).mono fun e w' ⟨he, hw⟩ => ⟨he, by rw [hw]; exact (Below.refl _ _).alloc (Nat.le_refl _) _⟩
  | 4, _, _ => exact (errorOf_4 w).mono fun e w' ⟨he, hw⟩ => ⟨he, by rw [hw]; exact (Below.refl _ _).alloc (Nat.le_refl _) _⟩
  | 5, _, _ => exact (errorOf_5 w).mono fun e w' ⟨he, hw⟩ => ⟨he, by rw [hw]; exact (Below.refl _ _).alloc (Nat.le_refl _) _⟩
  | 6, _, _ => exact (errorOf_6 w).mono fun e w' ⟨he, hw⟩ => ⟨he, by rw [hw]; exact (Below.refl _ _).alloc (Nat.le_refl _) _⟩
  | 7, _, _ => exact (errorOf_7 w).mono fun e w' ⟨he, hw⟩ => ⟨he, by rw [hw]; exact (Below.refl _ _).alloc (Nat.le_refl _) _⟩
  | 8, _, _ => exact (errorOf_8 w).mono fun e w' ⟨he, hw⟩ => ⟨he, by rw [hw]; exact (Below.refl _ _).alloc (Nat.le_refl _) _⟩
  | 9, _, _ => exact (errorOf_9 w).mono fun e w' ⟨he, hw⟩ => ⟨he, by rw [hw]; exact (Below.refl _ _).alloc (Nat.le_refl _) _⟩
  | 10, _, _ => exact (errorOf_10 w).mono fun e w' ⟨he, hw⟩ => ⟨he, by rw [hw]; exact (Below.refl _ _).alloc (Nat.le_refl _) _⟩
  | 11, _, _ => exact (errorOf_11 w).mono fun e w' ⟨he, hw⟩ => ⟨he, by rw [hw]; exact (Below.refl _ _).alloc (Nat.le_refl _) _⟩
set_option maxRecDepth 100000 in
set_option maxHeartbeats 1000000 in
theorem errorIs_1 (j : Nat) (h1 : 1 ≤ j) (h2 : j ≤ 11) (w : World) : Calls Tryz.prog 18 #[.int .i64 1, .int .i64 j] w fun e w' => e = .returned (.bool (isB 1 j)) ∧ Below w.heap.size w w' := by
  obtain ⟨t, ht⟩ : ∃ t, t = ptT j := ⟨_, rfl⟩
  obtain ⟨q, hq⟩ : ∃ q, q = isB 1 j := ⟨_, rfl⟩
  have HE : Hid (∀ W, Calls Tryz.prog 41 #[.int .i64 j] W fun e w' => e = .returned (.iface t (.pointer (some ⟨W.heap.size, 0, none⟩))) ∧ Below W.heap.size W w') := by rw [ht]; exact errorOf_any j h1 h2
  have HI : Hid (∀ r v W, Calls Tryz.prog 263 #[.pointer r, .iface t v] W fun e w' => e = .returned (.bool q) ∧ Below W.heap.size W w') := by rw [ht, hq]; exact fun r v W => (is_1 j h1 h2 r v W).mono fun _ _ ⟨he, hw⟩ => ⟨he, by rw [hw]; exact Below.refl _ _⟩
  have HE1 : Hid (∀ W, Calls Tryz.prog 41 #[.int .i64 1] W fun e w' => e = .returned (.iface 94 (.pointer (some ⟨W.heap.size, 0, none⟩))) ∧ Below W.heap.size W w') := errorOf_any 1 (by decide) (by decide)
  have tis : ∀ (v : Value) (w : World), (Instr.typeAssert (.iface 94 v) 69 66 true).run Tryz.prog w = .ok (.tuple #[.iface 94 v, .bool true]) w := fun _ _ => by kernel_rfl
  have nilA : ∀ (a : Addr) (w : World), (nilAhead 453 94 (.pointer (some a)) "Is").run Tryz.prog w = .ok (some false) w := fun _ _ => by kernel_rfl
  have meth : ∀ (a : Addr) (w : World), (method 453 94 (.pointer (some a)) "Is").run Tryz.prog w = .ok (263, .pointer (some a)) w := fun _ _ => by kernel_rfl
  rw [← hq]
  clear hq ht
  go_enter Tryz.func18, Tryz.ntmps18
  go_wp2_with (fail)
  refine (HE1.out w).mono ?_
  rintro e w1 ⟨rfl, hb1⟩
  have HB1 := Lib.hid hb1
  have hB0 : Below w.heap.size w w1.drew := hb1.drew
  clear hb1
  go_wp2_with (fail)
  go_region_held3 (fun W' => Below w.heap.size w W') (first | exact hB0 | assumption) (first | (go_at_call 41; go_must (go_fit (HE.out _)); rintro e w2 ⟨rfl, hb2⟩; have hbb := below_st (by assumption) (Nat.le_refl _) hb2) | (go_at_call 263; go_must (go_fit (HI.out _ _ _)); rintro e w2 ⟨rfl, hb2⟩; have hbc := below_st (by assumption) (Nat.le_refl _) hb2))
  all_goals
    have HBC := Lib.hid hbc
    clear hbc hbb hB0
    go_wp2_with (fail)
    go_ret
    exact ⟨rfl, HBC.out⟩
set_option maxRecDepth 100000 in
set_option maxHeartbeats 1000000 in
theorem errorIs_2 (j : Nat) (h1 : 1 ≤ j) (h2 : j ≤ 11) (w : World) : Calls Tryz.prog 18 #[.int .i64 2, .int .i64 j] w fun e w' => e = .returned (.bool (isB 2 j)) ∧ Below w.heap.size w w' := by
  obtain ⟨t, ht⟩ : ∃ t, t = ptT j := ⟨_, rfl⟩
  obtain ⟨q, hq⟩ : ∃ q, q = isB 2 j := ⟨_, rfl⟩
  have HE : Hid (∀ W, Calls Tryz.prog 41 #[.int .i64 j] W fun e w' => e = .returned (.iface t (.pointer (some ⟨W.heap.size, 0, none⟩))) ∧ Below W.heap.size W w') := by rw [ht]; exact errorOf_any j h1 h2
  have HI : Hid (∀ r v W, Calls Tryz.prog 265 #[.pointer r, .iface t v] W fun e w' => e = .returned (.bool q) ∧ Below W.heap.size W w') := by rw [ht, hq]; exact fun r v W => (is_2 j h1 h2 r v W).mono fun _ _ ⟨he, hw⟩ => ⟨he, by rw [hw]; exact Below.refl _ _⟩
  have HE1 : Hid (∀ W, Calls Tryz.prog 41 #[.int .i64 2] W fun e w' => e = .returned (.iface 97 (.pointer (some ⟨W.heap.size, 0, none⟩))) ∧ Below W.heap.size W w') := errorOf_any 2 (by decide) (by decide)
  have tis : ∀ (v : Value) (w : World), (Instr.typeAssert (.iface 97 v) 69 66 true).run Tryz.prog w = .ok (.tuple #[.iface 97 v, .bool true]) w := fun _ _ => by kernel_rfl
  have nilA : ∀ (a : Addr) (w : World), (nilAhead 453 97 (.pointer (some a)) "Is").run Tryz.prog w = .ok (some false) w := fun _ _ => by kernel_rfl
  have meth : ∀ (a : Addr) (w : World), (method 453 97 (.pointer (some a)) "Is").run Tryz.prog w = .ok (265, .pointer (some a)) w := fun _ _ => by kernel_rfl
  rw [← hq]
  clear hq ht
  go_enter Tryz.func18, Tryz.ntmps18
  go_wp2_with (fail)
  refine (HE1.out w).mono ?_
  rintro e w1 ⟨rfl, hb1⟩
  have HB1 := Lib.hid hb1
  have hB0 : Below w.heap.size w w1.drew := hb1.drew
  clear hb1
  go_wp2_with (fail)
  go_region_held3 (fun W' => Below w.heap.size w W') (first | exact hB0 | assumption) (first | (go_at_call 41; go_must (go_fit (HE.out _)); rintro e w2 ⟨rfl, hb2⟩; have hbb := below_st (by assumption) (Nat.le_refl _) hb2) | (go_at_call 265; go_must (go_fit (HI.out _ _ _)); rintro e w2 ⟨rfl, hb2⟩; have hbc := below_st (by assumption) (Nat.le_refl _) hb2))
  all_goals
    have HBC := Lib.hid hbc
    clear hbc hbb hB0
    go_wp2_with (fail)
    go_ret
    exact ⟨rfl, HBC.out⟩
set_option maxRecDepth 100000 in
set_option maxHeartbeats 1000000 in
theorem errorIs_3 (j : Nat) (h1 : 1 ≤ j) (h2 : j ≤ 11) (w : World) : Calls Tryz.prog 18 #[.int .i64 3, .int .i64 j] w fun e w' => e = .returned (.bool (isB 3 j)) ∧ Below w.heap.size w w' := by
  obtain ⟨t, ht⟩ : ∃ t, t = ptT j := ⟨_, rfl⟩
  obtain ⟨q, hq⟩ : ∃ q, q = isB 3 j := ⟨_, rfl⟩
  have HE : Hid (∀ W, Calls Tryz.prog 41 #[.int .i64 j] W fun e w' => e = .returned (.iface t (.pointer (some ⟨W.heap.size, 0, none⟩))) ∧ Below W.heap.size W w') := by rw [ht]; exact errorOf_any j h1 h2
  have HI : Hid (∀ r v W, Calls Tryz.prog 267 #[.pointer r, .iface t v] W fun e w' => e = .returned (.bool q) ∧ Below W.heap.size W w') := by rw [ht, hq]; exact fun r v W => (is_3 j h1 h2 r v W).mono fun _ _ ⟨he, hw⟩ => ⟨he, by rw [hw]; exact Below.refl _ _⟩
  have HE1 : Hid (∀ W, Calls Tryz.prog 41 #[.int .i64 3] W fun e w' => e = .returned (.iface 99 (.pointer (some ⟨W.heap.size, 0, none⟩))) ∧ Below W.heap.size W w') := errorOf_any 3 (by decide) (by decide)
  have tis : ∀ (v : Value) (w : World), (Instr.typeAssert (.iface 99 v) 69 66 true).run Tryz.prog w = .ok (.tuple #[.iface 99 v, .bool true]) w := fun _ _ => by kernel_rfl
  have nilA : ∀ (a : Addr) (w : World), (nilAhead 453 99 (.pointer (some a)) "Is").run Tryz.prog w = .ok (some false) w := fun _ _ => by kernel_rfl
  have meth : ∀ (a : Addr) (w : World), (method 453 99 (.pointer (some a)) "Is").run Tryz.prog w = .ok (267, .pointer (some a)) w := fun _ _ => by kernel_rfl
  rw [← hq]
  clear hq ht
  go_enter Tryz.func18, Tryz.ntmps18
  go_wp2_with (fail)
  refine (HE1.out w).mono ?_
  rintro e w1 ⟨rfl, hb1⟩
  have HB1 := Lib.hid hb1
  have hB0 : Below w.heap.size w w1.drew := hb1.drew
  clear hb1
  go_wp2_with (fail)
  go_region_held3 (fun W' => Below w.heap.size w W') (first | exact hB0 | assumption) (first | (go_at_call 41; go_must (go_fit (HE.out _)); rintro e w2 ⟨rfl, hb2⟩; have hbb := below_st (by assumption) (Nat.le_refl _) hb2) | (go_at_call 267; go_must (go_fit (HI.out _ _ _)); rintro e w2 ⟨rfl, hb2⟩; have hbc := below_st (by assumption) (Nat.le_refl _) hb2))
  all_goals
    have HBC := Lib.hid hbc
    clear hbc hbb hB0
    go_wp2_with (fail)
    go_ret
    exact ⟨rfl, HBC.out⟩
set_option maxRecDepth 100000 in
set_option maxHeartbeats 1000000 in
theorem errorIs_4 (j : Nat) (h1 : 1 ≤ j) (h2 : j ≤ 11) (w : World) : Calls Tryz.prog 18 #[.int .i64 4, .int .i64 j] w fun e w' => e = .returned (.bool (isB 4 j)) ∧ Below w.heap.size w w' := by
  obtain ⟨t, ht⟩ : ∃ t, t = ptT j := ⟨_, rfl⟩
  obtain ⟨q, hq⟩ : ∃ q, q = isB 4 j := ⟨_, rfl⟩
  have HE : Hid (∀ W, Calls Tryz.prog 41 #[.int .i64 j] W fun e w' => e = .returned (.iface t (.pointer (some ⟨W.heap.size, 0, none⟩))) ∧ Below W.heap.size W w') := by rw [ht]; exact errorOf_any j h1 h2
  have HI : Hid (∀ r v W, Calls Tryz.prog 269 #[.pointer r, .iface t v] W fun e w' => e = .returned (.bool q) ∧ Below W.heap.size W w') := by rw [ht, hq]; exact fun r v W => (is_4 j h1 h2 r v W).mono fun _ _ ⟨he, hw⟩ => ⟨he, by rw [hw]; exact Below.refl _ _⟩
  have HE1 : Hid (∀ W, Calls Tryz.prog 41 #[.int .i64 4] W fun e w' => e = .returned (.iface 101 (.pointer (some ⟨W.heap.size, 0, none⟩))) ∧ Below W.heap.size W w') := errorOf_any 4 (by decide) (by decide)
  have tis : ∀ (v : Value) (w : World), (Instr.typeAssert (.iface 101 v) 69 66 true).run Tryz.prog w = .ok (.tuple #[.iface 101 v, .bool true]) w := fun _ _ => by kernel_rfl
  have nilA : ∀ (a : Addr) (w : World), (nilAhead 453 101 (.pointer (some a)) "Is").run Tryz.prog w = .ok (some false) w := fun _ _ => by kernel_rfl
  have meth : ∀ (a : Addr) (w : World), (method 453 101 (.pointer (some a)) "Is").run Tryz.prog w = .ok (269, .pointer (some a)) w := fun _ _ => by kernel_rfl
  rw [← hq]
  clear hq ht
  go_enter Tryz.func18, Tryz.ntmps18
  go_wp2_with (fail)
  refine (HE1.out w).mono ?_
  rintro e w1 ⟨rfl, hb1⟩
  have HB1 := Lib.hid hb1
  have hB0 : Below w.heap.size w w1.drew := hb1.drew
  clear hb1
  go_wp2_with (fail)
  go_region_held3 (fun W' => Below w.heap.size w W') (first | exact hB0 | assumption) (first | (go_at_call 41; go_must (go_fit (HE.out _)); rintro e w2 ⟨rfl, hb2⟩; have hbb := below_st (by assumption) (Nat.le_refl _) hb2) | (go_at_call 269; go_must (go_fit (HI.out _ _ _)); rintro e w2 ⟨rfl, hb2⟩; have hbc := below_st (by assumption) (Nat.le_refl _) hb2))
  all_goals
    have HBC := Lib.hid hbc
    clear hbc hbb hB0
    go_wp2_with (fail)
    go_ret
    exact ⟨rfl, HBC.out⟩
set_option maxRecDepth 100000 in
set_option maxHeartbeats 1000000 in
theorem errorIs_5 (j : Nat) (h1 : 1 ≤ j) (h2 : j ≤ 11) (w : World) : Calls Tryz.prog 18 #[.int .i64 5, .int .i64 j] w fun e w' => e = .returned (.bool (isB 5 j)) ∧ Below w.heap.size w w' := by
  obtain ⟨t, ht⟩ : ∃ t, t = ptT j := ⟨_, rfl⟩
  obtain ⟨q, hq⟩ : ∃ q, q = isB 5 j := ⟨_, rfl⟩
  have HE : Hid (∀ W, Calls Tryz.prog 41 #[.int .i64 j] W fun e w' => e = .returned (.iface t (.pointer (some ⟨W.heap.size, 0, none⟩))) ∧ Below W.heap.size W w') := by rw [ht]; exact errorOf_any j h1 h2
  have HI : Hid (∀ r v W, Calls Tryz.prog 271 #[.pointer r, .iface t v] W fun e w' => e = .returned (.bool q) ∧ Below W.heap.size W w') := by rw [ht, hq]; exact fun r v W => (is_5 j h1 h2 r v W).mono fun _ _ ⟨he, hw⟩ => ⟨he, by rw [hw]; exact Below.refl _ _⟩
  have HE1 : Hid (∀ W, Calls Tryz.prog 41 #[.int .i64 5] W fun e w' => e = .returned (.iface 103 (.pointer (some ⟨W.heap.size, 0, none⟩))) ∧ Below W.heap.size W w') := errorOf_any 5 (by decide) (by decide)
  have tis : ∀ (v : Value) (w : World), (Instr.typeAssert (.iface 103 v) 69 66 true).run Tryz.prog w = .ok (.tuple #[.iface 103 v, .bool true]) w := fun _ _ => by kernel_rfl
  have nilA : ∀ (a : Addr) (w : World), (nilAhead 453 103 (.pointer (some a)) "Is").run Tryz.prog w = .ok (some false) w := fun _ _ => by kernel_rfl
  have meth : ∀ (a : Addr) (w : World), (method 453 103 (.pointer (some a)) "Is").run Tryz.prog w = .ok (271, .pointer (some a)) w := fun _ _ => by kernel_rfl
  rw [← hq]
  clear hq ht
  go_enter Tryz.func18, Tryz.ntmps18
  go_wp2_with (fail)
  refine (HE1.out w).mono ?_
  rintro e w1 ⟨rfl, hb1⟩
  have HB1 := Lib.hid hb1
  have hB0 : Below w.heap.size w w1.drew := hb1.drew
  clear hb1
  go_wp2_with (fail)
  go_region_held3 (fun W' => Below w.heap.size w W') (first | exact hB0 | assumption) (first | (go_at_call 41; go_must (go_fit (HE.out _)); rintro e w2 ⟨rfl, hb2⟩; have hbb := below_st (by assumption) (Nat.le_refl _) hb2) | (go_at_call 271; go_must (go_fit (HI.out _ _ _)); rintro e w2 ⟨rfl, hb2⟩; have hbc := below_st (by assumption) (Nat.le_refl _) hb2))
  all_goals
    have HBC := Lib.hid hbc
    clear hbc hbb hB0
    go_wp2_with (fail)
    go_ret
    exact ⟨rfl, HBC.out⟩
set_option maxRecDepth 100000 in
set_option maxHeartbeats 1000000 in
theorem errorIs_6 (j : Nat) (h1 : 1 ≤ j) (h2 : j ≤ 11) (w : World) : Calls Tryz.prog 18 #[.int .i64 6, .int .i64 j] w fun e w' => e = .returned (.bool (isB 6 j)) ∧ Below w.heap.size w w' := by
  obtain ⟨t, ht⟩ : ∃ t, t = ptT j := ⟨_, rfl⟩
  obtain ⟨q, hq⟩ : ∃ q, q = isB 6 j := ⟨_, rfl⟩
  have HE : Hid (∀ W, Calls Tryz.prog 41 #[.int .i64 j] W fun e w' => e = .returned (.iface t (.pointer (some ⟨W.heap.size, 0, none⟩))) ∧ Below W.heap.size W w') := by rw [ht]; exact errorOf_any j h1 h2
  have HI : Hid (∀ r v W, Calls Tryz.prog 273 #[.pointer r, .iface t v] W fun e w' => e = .returned (.bool q) ∧ Below W.heap.size W w') := by rw [ht, hq]; exact fun r v W => (is_6 j h1 h2 r v W).mono fun _ _ ⟨he, hw⟩ => ⟨he, by rw [hw]; exact Below.refl _ _⟩
  have HE1 : Hid (∀ W, Calls Tryz.prog 41 #[.int .i64 6] W fun e w' => e = .returned (.iface 105 (.pointer (some ⟨W.heap.size, 0, none⟩))) ∧ Below W.heap.size W w') := errorOf_any 6 (by decide) (by decide)
  have tis : ∀ (v : Value) (w : World), (Instr.typeAssert (.iface 105 v) 69 66 true).run Tryz.prog w = .ok (.tuple #[.iface 105 v, .bool true]) w := fun _ _ => by kernel_rfl
  have nilA : ∀ (a : Addr) (w : World), (nilAhead 453 105 (.pointer (some a)) "Is").run Tryz.prog w = .ok (some false) w := fun _ _ => by kernel_rfl
  have meth : ∀ (a : Addr) (w : World), (method 453 105 (.pointer (some a)) "Is").run Tryz.prog w = .ok (273, .pointer (some a)) w := fun _ _ => by kernel_rfl
  rw [← hq]
  clear hq ht
  go_enter Tryz.func18, Tryz.ntmps18
  go_wp2_with (fail)
  refine (HE1.out w).mono ?_
  rintro e w1 ⟨rfl, hb1⟩
  have HB1 := Lib.hid hb1
  have hB0 : Below w.heap.size w w1.drew := hb1.drew
  clear hb1
  go_wp2_with (fail)
  go_region_held3 (fun W' => Below w.heap.size w W') (first | exact hB0 | assumption) (first | (go_at_call 41; go_must (go_fit (HE.out _)); rintro e w2 ⟨rfl, hb2⟩; have hbb := below_st (by assumption) (Nat.le_refl _) hb2) | (go_at_call 273; go_must (go_fit (HI.out _ _ _)); rintro e w2 ⟨rfl, hb2⟩; have hbc := below_st (by assumption) (Nat.le_refl _) hb2))
  all_goals
    have HBC := Lib.hid hbc
    clear hbc hbb hB0
    go_wp2_with (fail)
    go_ret
    exact ⟨rfl, HBC.out⟩
set_option maxRecDepth 100000 in
set_option maxHeartbeats 1000000 in
theorem errorIs_7 (j : Nat) (h1 : 1 ≤ j) (h2 : j ≤ 11) (w : World) : Calls Tryz.prog 18 #[.int .i64 7, .int .i64 j] w fun e w' => e = .returned (.bool (isB 7 j)) ∧ Below w.heap.size w w' := by
  obtain ⟨t, ht⟩ : ∃ t, t = ptT j := ⟨_, rfl⟩
  obtain ⟨q, hq⟩ : ∃ q, q = isB 7 j := ⟨_, rfl⟩
  have HE : Hid (∀ W, Calls Tryz.prog 41 #[.int .i64 j] W fun e w' => e = .returned (.iface t (.pointer (some ⟨W.heap.size, 0, none⟩))) ∧ Below W.heap.size W w') := by rw [ht]; exact errorOf_any j h1 h2
  have HI : Hid (∀ r v W, Calls Tryz.prog 275 #[.pointer r, .iface t v] W fun e w' => e = .returned (.bool q) ∧ Below W.heap.size W w') := by rw [ht, hq]; exact fun r v W => (is_7 j h1 h2 r v W).mono fun _ _ ⟨he, hw⟩ => ⟨he, by rw [hw]; exact Below.refl _ _⟩
  have HE1 : Hid (∀ W, Calls Tryz.prog 41 #[.int .i64 7] W fun e w' => e = .returned (.iface 107 (.pointer (some ⟨W.heap.size, 0, none⟩))) ∧ Below W.heap.size W w') := errorOf_any 7 (by decide) (by decide)
  have tis : ∀ (v : Value) (w : World), (Instr.typeAssert (.iface 107 v) 69 66 true).run Tryz.prog w = .ok (.tuple #[.iface 107 v, .bool true]) w := fun _ _ => by kernel_rfl
  have nilA : ∀ (a : Addr) (w : World), (nilAhead 453 107 (.pointer (some a)) "Is").run Tryz.prog w = .ok (some false) w := fun _ _ => by kernel_rfl
  have meth : ∀ (a : Addr) (w : World), (method 453 107 (.pointer (some a)) "Is").run Tryz.prog w = .ok (275, .pointer (some a)) w := fun _ _ => by kernel_rfl
  rw [← hq]
  clear hq ht
  go_enter Tryz.func18, Tryz.ntmps18
  go_wp2_with (fail)
  refine (HE1.out w).mono ?_
  rintro e w1 ⟨rfl, hb1⟩
  have HB1 := Lib.hid hb1
  have hB0 : Below w.heap.size w w1.drew := hb1.drew
  clear hb1
  go_wp2_with (fail)
  go_region_held3 (fun W' => Below w.heap.size w W') (first | exact hB0 | assumption) (first | (go_at_call 41; go_must (go_fit (HE.out _)); rintro e w2 ⟨rfl, hb2⟩; have hbb := below_st (by assumption) (Nat.le_refl _) hb2) | (go_at_call 275; go_must (go_fit (HI.out _ _ _)); rintro e w2 ⟨rfl, hb2⟩; have hbc := below_st (by assumption) (Nat.le_refl _) hb2))
  all_goals
    have HBC := Lib.hid hbc
    clear hbc hbb hB0
    go_wp2_with (fail)
    go_ret
    exact ⟨rfl, HBC.out⟩
set_option maxRecDepth 100000 in
set_option maxHeartbeats 1000000 in
theorem errorIs_8 (j : Nat) (h1 : 1 ≤ j) (h2 : j ≤ 11) (w : World) : Calls Tryz.prog 18 #[.int .i64 8, .int .i64 j] w fun e w' => e = .returned (.bool (isB 8 j)) ∧ Below w.heap.size w w' := by
  obtain ⟨t, ht⟩ : ∃ t, t = ptT j := ⟨_, rfl⟩
  obtain ⟨q, hq⟩ : ∃ q, q = isB 8 j := ⟨_, rfl⟩
  have HE : Hid (∀ W, Calls Tryz.prog 41 #[.int .i64 j] W fun e w' => e = .returned (.iface t (.pointer (some ⟨W.heap.size, 0, none⟩))) ∧ Below W.heap.size W w') := by rw [ht]; exact errorOf_any j h1 h2
  have HI : Hid (∀ r v W, Calls Tryz.prog 277 #[.pointer r, .iface t v] W fun e w' => e = .returned (.bool q) ∧ Below W.heap.size W w') := by rw [ht, hq]; exact fun r v W => (is_8 j h1 h2 r v W).mono fun _ _ ⟨he, hw⟩ => ⟨he, by rw [hw]; exact Below.refl _ _⟩
  have HE1 : Hid (∀ W, Calls Tryz.prog 41 #[.int .i64 8] W fun e w' => e = .returned (.iface 109 (.pointer (some ⟨W.heap.size, 0, none⟩))) ∧ Below W.heap.size W w') := errorOf_any 8 (by decide) (by decide)
  have tis : ∀ (v : Value) (w : World), (Instr.typeAssert (.iface 109 v) 69 66 true).run Tryz.prog w = .ok (.tuple #[.iface 109 v, .bool true]) w := fun _ _ => by kernel_rfl
  have nilA : ∀ (a : Addr) (w : World), (nilAhead 453 109 (.pointer (some a)) "Is").run Tryz.prog w = .ok (some false) w := fun _ _ => by kernel_rfl
  have meth : ∀ (a : Addr) (w : World), (method 453 109 (.pointer (some a)) "Is").run Tryz.prog w = .ok (277, .pointer (some a)) w := fun _ _ => by kernel_rfl
  rw [← hq]
  clear hq ht
  go_enter Tryz.func18, Tryz.ntmps18
  go_wp2_with (fail)
  refine (HE1.out w).mono ?_
  rintro e w1 ⟨rfl, hb1⟩
  have HB1 := Lib.hid hb1
  have hB0 : Below w.heap.size w w1.drew := hb1.drew
  clear hb1
  go_wp2_with (fail)
  go_region_held3 (fun W' => Below w.heap.size w W') (first | exact hB0 | assumption) (first | (go_at_call 41; go_must (go_fit (HE.out _)); rintro e w2 ⟨rfl, hb2⟩; have hbb := below_st (by assumption) (Nat.le_refl _) hb2) | (go_at_call 277; go_must (go_fit (HI.out _ _ _)); rintro e w2 ⟨rfl, hb2⟩; have hbc := below_st (by assumption) (Nat.le_refl _) hb2))
  all_goals
    have HBC := Lib.hid hbc
    clear hbc hbb hB0
    go_wp2_with (fail)
    go_ret
    exact ⟨rfl, HBC.out⟩
set_option maxRecDepth 100000 in
set_option maxHeartbeats 1000000 in
theorem errorIs_9 (j : Nat) (h1 : 1 ≤ j) (h2 : j ≤ 11) (w : World) : Calls Tryz.prog 18 #[.int .i64 9, .int .i64 j] w fun e w' => e = .returned (.bool (isB 9 j)) ∧ Below w.heap.size w w' := by
  obtain ⟨t, ht⟩ : ∃ t, t = ptT j := ⟨_, rfl⟩
  obtain ⟨q, hq⟩ : ∃ q, q = isB 9 j := ⟨_, rfl⟩
  have HE : Hid (∀ W, Calls Tryz.prog 41 #[.int .i64 j] W fun e w' => e = .returned (.iface t (.pointer (some ⟨W.heap.size, 0, none⟩))) ∧ Below W.heap.size W w') := by rw [ht]; exact errorOf_any j h1 h2
  have HI : Hid (∀ r v W, Calls Tryz.prog 279 #[.pointer r, .iface t v] W fun e w' => e = .returned (.bool q) ∧ Below W.heap.size W w') := by rw [ht, hq]; exact fun r v W => (is_9 j h1 h2 r v W).mono fun _ _ ⟨he, hw⟩ => ⟨he, by rw [hw]; exact Below.refl _ _⟩
  have HE1 : Hid (∀ W, Calls Tryz.prog 41 #[.int .i64 9] W fun e w' => e = .returned (.iface 111 (.pointer (some ⟨W.heap.size, 0, none⟩))) ∧ Below W.heap.size W w') := errorOf_any 9 (by decide) (by decide)
  have tis : ∀ (v : Value) (w : World), (Instr.typeAssert (.iface 111 v) 69 66 true).run Tryz.prog w = .ok (.tuple #[.iface 111 v, .bool true]) w := fun _ _ => by kernel_rfl
  have nilA : ∀ (a : Addr) (w : World), (nilAhead 453 111 (.pointer (some a)) "Is").run Tryz.prog w = .ok (some false) w := fun _ _ => by kernel_rfl
  have meth : ∀ (a : Addr) (w : World), (method 453 111 (.pointer (some a)) "Is").run Tryz.prog w = .ok (279, .pointer (some a)) w := fun _ _ => by kernel_rfl
  rw [← hq]
  clear hq ht
  go_enter Tryz.func18, Tryz.ntmps18
  go_wp2_with (fail)
  refine (HE1.out w).mono ?_
  rintro e w1 ⟨rfl, hb1⟩
  have HB1 := Lib.hid hb1
  have hB0 : Below w.heap.size w w1.drew := hb1.drew
  clear hb1
  go_wp2_with (fail)
  go_region_held3 (fun W' => Below w.heap.size w W') (first | exact hB0 | assumption) (first | (go_at_call 41; go_must (go_fit (HE.out _)); rintro e w2 ⟨rfl, hb2⟩; have hbb := below_st (by assumption) (Nat.le_refl _) hb2) | (go_at_call 279; go_must (go_fit (HI.out _ _ _)); rintro e w2 ⟨rfl, hb2⟩; have hbc := below_st (by assumption) (Nat.le_refl _) hb2))
  all_goals
    have HBC := Lib.hid hbc
    clear hbc hbb hB0
    go_wp2_with (fail)
    go_ret
    exact ⟨rfl, HBC.out⟩
set_option maxRecDepth 100000 in
set_option maxHeartbeats 1000000 in
theorem errorIs_10 (j : Nat) (h1 : 1 ≤ j) (h2 : j ≤ 11) (w : World) : Calls Tryz.prog 18 #[.int .i64 10, .int .i64 j] w fun e w' => e = .returned (.bool (isB 10 j)) ∧ Below w.heap.size w w' := by
  obtain ⟨t, ht⟩ : ∃ t, t = ptT j := ⟨_, rfl⟩
  obtain ⟨q, hq⟩ : ∃ q, q = isB 10 j := ⟨_, rfl⟩
  have HE : Hid (∀ W, Calls Tryz.prog 41 #[.int .i64 j] W fun e w' => e = .returned (.iface t (.pointer (some ⟨W.heap.size, 0, none⟩))) ∧ Below W.heap.size W w') := by rw [ht]; exact errorOf_any j h1 h2
  have HI : Hid (∀ r v W, Calls Tryz.prog 281 #[.pointer r, .iface t v] W fun e w' => e = .returned (.bool q) ∧ Below W.heap.size W w') := by rw [ht, hq]; exact fun r v W => (is_10 j h1 h2 r v W).mono fun _ _ ⟨he, hw⟩ => ⟨he, by rw [hw]; exact Below.refl _ _⟩
  have HE1 : Hid (∀ W, Calls Tryz.prog 41 #[.int .i64 10] W fun e w' => e = .returned (.iface 113 (.pointer (some ⟨W.heap.size, 0, none⟩))) ∧ Below W.heap.size W w') := errorOf_any 10 (by decide) (by decide)
  have tis : ∀ (v : Value) (w : World), (Instr.typeAssert (.iface 113 v) 69 66 true).run Tryz.prog w = .ok (.tuple #[.iface 113 v, .bool true]) w := fun _ _ => by kernel_rfl
  have nilA : ∀ (a : Addr) (w : World), (nilAhead 453 113 (.pointer (some a)) "Is").run Tryz.prog w = .ok (some false) w := fun _ _ => by kernel_rfl
  have meth : ∀ (a : Addr) (w : World), (method 453 113 (.pointer (some a)) "Is").run Tryz.prog w = .ok (281, .pointer (some a)) w := fun _ _ => by kernel_rfl
  rw [← hq]
  clear hq ht
  go_enter Tryz.func18, Tryz.ntmps18
  go_wp2_with (fail)
  refine (HE1.out w).mono ?_
  rintro e w1 ⟨rfl, hb1⟩
  have HB1 := Lib.hid hb1
  have hB0 : Below w.heap.size w w1.drew := hb1.drew
  clear hb1
  go_wp2_with (fail)
  go_region_held3 (fun W' => Below w.heap.size w W') (first | exact hB0 | assumption) (first | (go_at_call 41; go_must (go_fit (HE.out _)); rintro e w2 ⟨rfl, hb2⟩; have hbb := below_st (by assumption) (Nat.le_refl _) hb2) | (go_at_call 281; go_must (go_fit (HI.out _ _ _)); rintro e w2 ⟨rfl, hb2⟩; have hbc := below_st (by assumption) (Nat.le_refl _) hb2))
  all_goals
    have HBC := Lib.hid hbc
    clear hbc hbb hB0
    go_wp2_with (fail)
    go_ret
    exact ⟨rfl, HBC.out⟩
set_option maxRecDepth 100000 in
set_option maxHeartbeats 1000000 in
theorem errorIs_11 (j : Nat) (h1 : 1 ≤ j) (h2 : j ≤ 11) (w : World) : Calls Tryz.prog 18 #[.int .i64 11, .int .i64 j] w fun e w' => e = .returned (.bool (isB 11 j)) ∧ Below w.heap.size w w' := by
  obtain ⟨t, ht⟩ : ∃ t, t = ptT j := ⟨_, rfl⟩
  obtain ⟨q, hq⟩ : ∃ q, q = isB 11 j := ⟨_, rfl⟩
  have HE : Hid (∀ W, Calls Tryz.prog 41 #[.int .i64 j] W fun e w' => e = .returned (.iface t (.pointer (some ⟨W.heap.size, 0, none⟩))) ∧ Below W.heap.size W w') := by rw [ht]; exact errorOf_any j h1 h2
  have HI : Hid (∀ r v W, Calls Tryz.prog 283 #[.pointer r, .iface t v] W fun e w' => e = .returned (.bool q) ∧ Below W.heap.size W w') := by rw [ht, hq]; exact fun r v W => (is_11 j h1 h2 r v W).mono fun _ _ ⟨he, hw⟩ => ⟨he, by rw [hw]; exact Below.refl _ _⟩
  have HE1 : Hid (∀ W, Calls Tryz.prog 41 #[.int .i64 11] W fun e w' => e = .returned (.iface 115 (.pointer (some ⟨W.heap.size, 0, none⟩))) ∧ Below W.heap.size W w') := errorOf_any 11 (by decide) (by decide)
  have tis : ∀ (v : Value) (w : World), (Instr.typeAssert (.iface 115 v) 69 66 true).run Tryz.prog w = .ok (.tuple #[.iface 115 v, .bool true]) w := fun _ _ => by kernel_rfl
  have nilA : ∀ (a : Addr) (w : World), (nilAhead 453 115 (.pointer (some a)) "Is").run Tryz.prog w = .ok (some false) w := fun _ _ => by kernel_rfl
  have meth : ∀ (a : Addr) (w : World), (method 453 115 (.pointer (some a)) "Is").run Tryz.prog w = .ok (283, .pointer (some a)) w := fun _ _ => by kernel_rfl
  rw [← hq]
  clear hq ht
  go_enter Tryz.func18, Tryz.ntmps18
  go_wp2_with (fail)
  refine (HE1.out w).mono ?_
  rintro e w1 ⟨rfl, hb1⟩
  have HB1 := Lib.hid hb1
  have hB0 : Below w.heap.size w w1.drew := hb1.drew
  clear hb1
  go_wp2_with (fail)
  go_region_held3 (fun W' => Below w.heap.size w W') (first | exact hB0 | assumption) (first | (go_at_call 41; go_must (go_fit (HE.out _)); rintro e w2 ⟨rfl, hb2⟩; have hbb := below_st (by assumption) (Nat.le_refl _) hb2) | (go_at_call 283; go_must (go_fit (HI.out _ _ _)); rintro e w2 ⟨rfl, hb2⟩; have hbc := below_st (by assumption) (Nat.le_refl _) hb2))
  all_goals
    have HBC := Lib.hid hbc
    clear hbc hbb hB0
    go_wp2_with (fail)
    go_ret
    exact ⟨rfl, HBC.out⟩
theorem errorIs_any (i j : Nat) (g1 : 1 ≤ i) (g2 : i ≤ 11) (h1 : 1 ≤ j) (h2 : j ≤ 11) (w : World) : Calls Tryz.prog 18 #[.int .i64 i, .int .i64 j] w fun e w' => e = .returned (.bool (isB i j)) ∧ Below w.heap.size w w' := by
  match i, g1, g2 with
  | 1, _, _ => exact errorIs_1 j h1 h2 w
  | 2, _, _ => exact errorIs_2 j h1 h2 w
  | 3, _, _ => exact errorIs_3 j h1 h2 w
  | 4, _, _ => exact errorIs_4 j h1 h2 w
  | 5, _, _ => exact errorIs_5 j h1 h2 w
  | 6, _, _ => exact errorIs_6 j h1 h2 w
  | 7, _, _ => exact errorIs_7 j h1 h2 w
  | 8, _, _ => exact errorIs_8 j h1 h2 w
  | 9, _, _ => exact errorIs_9 j h1 h2 w
  | 10, _, _ => exact errorIs_10 j h1 h2 w
  | 11, _, _ => exact errorIs_11 j h1 h2 w
end Go.Proofs.YtngifhngangpeaaGreatDoor
