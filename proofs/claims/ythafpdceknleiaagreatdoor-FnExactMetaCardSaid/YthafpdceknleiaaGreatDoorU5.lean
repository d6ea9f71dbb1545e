/- slices.Index, slices.Contains, laws.distinct, impl.code. -/
import Derived.Test.YthafpdceknleiaaGreatDoorU4
import Derived.Test.YthafpdceknleiaaGreatDoorT2
open Go Go.RowKit
namespace Go.Proofs.YthafpdceknleiaaGreatDoor
/-- A list of texts that a value tells. -/
def TxtR (w : World) (ao : Option Addr) (l : List ByteArray) : Prop := ∀ (j : Nat) (s : ByteArray), l[j]? = some s → ∃ a, ao = some a ∧ w.cell? (a.add j) = some (.string s)
/-- Whether the texts ahead of k are all different. -/
def DisT (l : List ByteArray) (k : Nat) : Prop := ∀ (j : Nat) (x : ByteArray), j < k → l[j]? = some x → amB x (l.take j) = false
set_option maxRecDepth 100000 in
set_option maxHeartbeats 4000000 in
theorem slIndexStr_any (s : ByteArray) {l : List ByteArray} {ao : Option Addr} {cp : Nat} {w : World} (hc : TxtR w ao l) (hl : l.length ≤ 2147483648) :
    Calls Tryz.prog 88 #[.slice ao l.length cp, .string s] w fun e w' => (∃ i : Int, e = .returned (.int .i64 i) ∧ decide (0 ≤ i) = amB s l) ∧ w' = w := by
  have HC := Lib.hid hc
  clear hc
  go_enter Tryz.func88, Tryz.ntmps88
  go_wp2_with (fail)
  go_loopw [8] (fun i wr => ∃ k : Nat, k ≤ l.length ∧ i = .int .i64 k ∧ wr = w ∧ Hid (amB s (l.take k) = false)) (fun i _ => l.length - (intOf i).toNat)
  case atStart => exact ⟨0, Nat.zero_le _, rfl, rfl, (by show _ = _; simp [amB])⟩
  case round =>
    obtain ⟨k, hk, rfl, rfl, HK⟩ := hrel
    by_cases hlt : k < l.length
    · obtain ⟨x, hx⟩ : ∃ x, l[k]? = some x := ⟨_, List.getElem?_eq_getElem hlt⟩
      obtain ⟨a, rfl, c0⟩ := HC.out k x hx
      have HX := Lib.hid hx
      clear hx
      by_cases he : s.toList = x.toList
      · have HD : Hid (amB s l = true) := amB_hit HX.out he.symm
        go_wp2_with (fail)
        go_ret
        exact ⟨⟨k, rfl, by rw [HD.out]; exact decide_eq_true (by omega)⟩, rfl⟩
      · have HK2 : Hid (amB s (l.take (k + 1)) = false) := amB_miss HX.out (fun h => he h.symm) HK.out
        have i1 : (s.toList == x.toList) = false := by simpa using he
        clear he
        go_wp2_with (fail)
        go_roundw
        case rel => exact ⟨k + 1, by omega, by go_num, trivial, HK2⟩
        case measure => simp [intOf]; omega
    · have HD : Hid (amB s l = false) := by show _ = _; rw [← amB_take_end s l k (by omega)]; exact HK.out
      go_wp2_with (fail)
      go_ret
      exact ⟨⟨-1, rfl, by rw [HD.out]; rfl⟩, rfl⟩
set_option maxRecDepth 100000 in
set_option maxHeartbeats 4000000 in
theorem slContainsStr_any (s : ByteArray) {l : List ByteArray} {ao : Option Addr} {cp : Nat} {w : World} (hc : TxtR w ao l) (hl : l.length ≤ 2147483648) :
    Calls Tryz.prog 67 #[.slice ao l.length cp, .string s] w fun e w' => e = .returned (.bool (amB s l)) ∧ w' = w := by
  have HX := Lib.hid (slIndexStr_any (cp := cp) s hc hl)
  clear hc
  go_enter Tryz.func67, Tryz.ntmps67
  go_wp2_with (go_at_call 88; refine HX.out.mono ?_; rintro e w' ⟨⟨i, rfl, hi⟩, rfl⟩)
  go_ret
  exact ⟨by rw [← hi]; rfl, rfl⟩
set_option maxRecDepth 100000 in
set_option maxHeartbeats 4000000 in
theorem distinct_any {l : List ByteArray} {ao : Option Addr} {cp : Nat} {w : World} (hc : TxtR w ao l) (hl : l.length ≤ 2147483648) (hcp : l.length ≤ cp) (hcp2 : cp ≤ 9223372036854775807) :
    Calls Tryz.prog 13 #[.slice ao l.length cp] w fun e w' => (∃ b, e = .returned (.bool b) ∧ (b = true ↔ DisT l l.length)) ∧ w' = w := by
  have HC := Lib.hid hc
  clear hc
  go_enter Tryz.func13, Tryz.ntmps13
  go_wp2_with (fail)
  go_loopw [7] (fun i wr => ∃ k : Nat, k ≤ l.length ∧ i = .int .i64 k ∧ wr = w ∧ Hid (DisT l k)) (fun i _ => l.length - (intOf i).toNat)
  case atStart => exact ⟨0, Nat.zero_le _, rfl, rfl, (by intro j x hj; omega)⟩
  case round =>
    obtain ⟨k, hk, rfl, rfl, HK⟩ := hrel
    by_cases hlt : k < l.length
    · obtain ⟨x, hx⟩ : ∃ x, l[k]? = some x := ⟨_, List.getElem?_eq_getElem hlt⟩
      obtain ⟨a, rfl, c0⟩ := HC.out k x hx
      have HX := Lib.hid hx
      clear hx
      have HA : Hid (Calls Tryz.prog 11 #[.slice (some a) k cp, .string x] wr fun e w' => e = .returned (.bool (amB x (l.take k))) ∧ w' = wr) := by
        have := among_some x (l := l.take k) (a := a) (cp := cp) (w := wr) (fun j s hj => by
          rw [List.getElem?_take] at hj
          split at hj
          · obtain ⟨a', h1, h2⟩ := HC.out j s hj
            cases h1
            exact h2
          · cases hj) (by rw [List.length_take]; omega)
        rw [List.length_take, Nat.min_eq_left (by omega)] at this
        exact Lib.hid this
      obtain ⟨b, hb⟩ : ∃ b, b = amB x (l.take k) := ⟨_, rfl⟩
      rw [← hb] at HA
      have HB := Lib.hid hb
      clear hb
      cases b with
      | true =>
        go_wp2_with (go_at_call 11; refine HA.out.mono ?_; rintro e w' ⟨rfl, rfl⟩)
        go_ret
        refine ⟨⟨false, rfl, ?_⟩, rfl⟩
        constructor
        · intro h; cases h
        · intro h
          have := h k x hlt HX.out
          rw [← HB.out] at this
          cases this
      | false =>
        go_wp2_with (go_at_call 11; refine HA.out.mono ?_; rintro e w' ⟨rfl, rfl⟩)
        go_roundw
        case rel =>
          refine ⟨k + 1, by omega, by go_num, trivial, Lib.hid (fun j y hj hy => ?_)⟩
          rcases Nat.lt_or_ge j k with h | h
          · exact HK.out j y h hy
          · have hjk : j = k := by omega
            subst hjk
            have hxx := HX.out
            rw [hy] at hxx
            cases hxx
            exact HB.out.symm
        case measure => simp [intOf]; omega
    · go_wp2_with (fail)
      go_ret
      refine ⟨⟨true, rfl, ?_⟩, rfl⟩
      rw [show l.length = k by omega]
      exact ⟨fun _ => HK.out, fun _ => rfl⟩
set_option maxRecDepth 100000 in
set_option maxHeartbeats 4000000 in
theorem code_nil (w : World) : Calls Tryz.prog 38 #[.nilIface] w fun e w' => e = .returned (.int .i64 0) ∧ w' = w := by
  go_enter Tryz.func38, Tryz.ntmps38
  go_wp2_with (fail)
  go_ret
  exact ⟨rfl, rfl⟩
set_option maxRecDepth 100000 in
set_option maxHeartbeats 4000000 in
theorem code_value (v : Value) (w : World) : Calls Tryz.prog 38 #[.iface 138 v] w fun e w' => e = .returned (.int .i64 1) ∧ w' = w := by
  have t1 : ∀ w, (Instr.typeAssert (.iface 138 v) 82 138 true).run Tryz.prog w = .ok (.tuple #[v, .bool true]) w := fun _ => by kernel_rfl
  go_enter Tryz.func38, Tryz.ntmps38
  go_wp2_with (fail)
  go_ret
  exact ⟨rfl, rfl⟩
end Go.Proofs.YthafpdceknleiaaGreatDoor
