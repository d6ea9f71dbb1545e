/- laws.distinct, zzFits2, zzFits1 answer something. -/
import Derived.Test.YtjganhmbjffjfaaGreatDoorT2
import Derived.Test.YtjganhmbjffjfaaGreatDoorT5
open Go Go.RowKit
namespace Go.Proofs.YtjganhmbjffjfaaGreatDoor
set_option maxRecDepth 100000 in
set_option maxHeartbeats 4000000 in
theorem distinct_some {l : List ByteArray} {a : Addr} {cp : Nat} {w : World} (hc : ∀ (j : Nat) (s : ByteArray), l[j]? = some s → w.cell? (a.add j) = some (.string s)) (hl : l.length ≤ 2147483648) (hcp : l.length ≤ cp) (hm : cp ≤ maxLen) :
    Calls Tryz.prog 46 #[.slice (some a) l.length cp] w (SomeBq w) := by
  have HC := Lib.hid hc
  have HA : Hid (∀ (k : Nat) (s : ByteArray), k ≤ l.length → Calls Tryz.prog 26 #[.slice (some a) k cp, .string s] w fun e w' => (∃ b, e = .returned (.bool b)) ∧ w' = w) := by
    intro k s hk
    have hlk : (l.take k).length = k := by rw [List.length_take]; omega
    have := among_some s (l := l.take k) (a := a) (cp := cp) (w := w) (fun j x hj => hc j x (by rw [List.getElem?_take] at hj; split at hj; exact hj; cases hj)) (by omega)
    rw [hlk] at this
    exact this.mono fun e w' h => ⟨⟨_, h.1⟩, h.2⟩
  unfold maxLen at hm
  clear hc
  go_enter Tryz.func46, Tryz.ntmps46
  go_wp2_with (fail)
  go_loopw [7] (fun i wr => ∃ k : Nat, k ≤ l.length ∧ i = .int .i64 k ∧ wr = w) (fun i _ => l.length - (intOf i).toNat)
  case atStart => exact ⟨0, Nat.zero_le _, rfl, rfl⟩
  case round =>
    obtain ⟨k, hk, rfl, rfl⟩ := hrel
    by_cases hlt : k < l.length
    · obtain ⟨x, hx⟩ : ∃ x, l[k]? = some x := ⟨_, List.getElem?_eq_getElem hlt⟩
      have c0 := HC.out k x hx
      clear hx
      have hk2 : (k : Int) ≤ (cp : Int) := by omega
      go_wp2_with (fail)
      refine (HA.out k x (by omega)).mono ?_
      rintro e w' ⟨⟨b, rfl⟩, rfl⟩
      cases b with
      | true =>
        go_wp2_with (fail)
        go_ret
        exact ⟨_, rfl, rfl⟩
      | false =>
        go_wp2_with (fail)
        go_roundw
        case rel => exact ⟨k + 1, by omega, by go_num, trivial⟩
        case measure => simp [intOf]; omega
    · go_wp2_with (fail)
      go_ret
      exact ⟨_, rfl, rfl⟩
theorem distinct_strR {l : List ByteArray} {v : Value} {w : World} (h : StrR w v l) (hl : l.length ≤ 2147483648) : Calls Tryz.prog 46 #[v] w (SomeBq w) := by
  rcases h with ⟨rfl, rfl⟩ | ⟨a, cap, rfl, h1, h2, h3⟩
  · go_enter Tryz.func46, Tryz.ntmps46
    go_wp2_with (fail)
    refine wp_loop_rounds 2 ?_
    rw [rounds_succ]
    go_wp2_with (fail)
    go_ret
    exact ⟨_, rfl, rfl⟩
  · exact distinct_some (fun j s hj => (h3 j s hj).1) hl h1 h2
set_option maxRecDepth 100000 in
set_option maxHeartbeats 4000000 in
theorem fits2_strR {l : List ByteArray} {v : Value} {w : World} (h : StrR w v l) : Calls Tryz.prog 22 #[v] w (SomeBq w) := by
  rcases h with ⟨rfl, rfl⟩ | ⟨a, cap, rfl, h1, h2, h3⟩
  · go_enter Tryz.func22, Tryz.ntmps22
    go_wp2_with (fail)
    refine wp_loop_rounds 2 ?_
    rw [rounds_succ]
    go_wp2_with (fail)
    go_ret
    exact ⟨_, rfl, rfl⟩
  · have HC : Hid (∀ (j : Nat) (s : ByteArray), l[j]? = some s → w.cell? (a.add j) = some (.string s)) := fun j s hj => (h3 j s hj).1
    unfold maxLen at h2
    have hl : l.length ≤ 9223372036854775807 := by omega
    clear h3
    by_cases hbig : 2147483647 < l.length
    · have i1 : decide ((2147483647 : Int) < (l.length : Int)) = true := decide_eq_true (by omega)
      clear h1 h2 hl hbig
      go_enter Tryz.func22, Tryz.ntmps22
      go_wp2_with (fail)
      go_ret
      exact ⟨_, rfl, rfl⟩
    · have i1 : decide ((2147483647 : Int) < (l.length : Int)) = false := decide_eq_false (by omega)
      have hl2 : l.length ≤ 2147483647 := by omega
      clear h2 hl hbig
      go_enter Tryz.func22, Tryz.ntmps22
      go_wp2_with (fail)
      go_loopw [10] (fun i wr => ∃ k : Nat, k ≤ l.length ∧ i = .int .i64 k ∧ wr = w) (fun i _ => l.length - (intOf i).toNat)
      case atStart => exact ⟨0, Nat.zero_le _, rfl, rfl⟩
      case round =>
        obtain ⟨k, hk, rfl, rfl⟩ := hrel
        by_cases hlt : k < l.length
        · obtain ⟨x, hx⟩ : ∃ x, l[k]? = some x := ⟨_, List.getElem?_eq_getElem hlt⟩
          have c0 := HC.out k x hx
          clear hx
          by_cases hx2 : 2147483647 < x.size
          · have i2 : decide ((2147483647 : Int) < (x.size : Int)) = true := decide_eq_true (by omega)
            clear hx2
            go_wp2_with (fail)
            go_ret
            exact ⟨_, rfl, rfl⟩
          · have i2 : decide ((2147483647 : Int) < (x.size : Int)) = false := decide_eq_false (by omega)
            clear hx2
            go_wp2_with (fail)
            go_roundw
            case rel => exact ⟨k + 1, by omega, by go_num, trivial⟩
            case measure => simp [intOf]; omega
        · go_wp2_with (fail)
          go_ret
          exact ⟨_, rfl, rfl⟩
end Go.Proofs.YtjganhmbjffjfaaGreatDoor
