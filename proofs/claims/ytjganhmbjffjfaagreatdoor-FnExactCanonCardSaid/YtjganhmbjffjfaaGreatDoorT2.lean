/- laws.among, laws.distinct, at lists of texts that are told by an address. -/
import Derived.Test.YtjganhmbjffjfaaGreatDoorT1
import Derived.Test.YtjganhmbjffjfaaGreatDoorV1
open Go Go.RowKit
namespace Go.Proofs.YtjganhmbjffjfaaGreatDoor
theorem bytes_toList_inj {s t : ByteArray} (h : s.toList = t.toList) : s = t := by
  rw [ByteArray.toList_eq, ByteArray.toList_eq] at h
  exact ByteArray.ext (Array.toList_inj.1 h)
/-- Whether a text is in a list. -/
def amB (s : ByteArray) (l : List ByteArray) : Bool := l.any fun x => x.toList == s.toList
theorem amB_take_end (s : ByteArray) (l : List ByteArray) (k : Nat) (h : l.length ≤ k) : amB s (l.take k) = amB s l := by rw [List.take_of_length_le h]
theorem amB_hit {s x : ByteArray} {l : List ByteArray} {k : Nat} (h : l[k]? = some x) (he : x.toList = s.toList) : amB s l = true :=
  List.any_eq_true.2 ⟨x, List.mem_of_getElem? h, by simp [he]⟩
theorem amB_miss {s x : ByteArray} {l : List ByteArray} {k : Nat} (h : l[k]? = some x) (he : ¬ x.toList = s.toList) (h0 : amB s (l.take k) = false) : amB s (l.take (k + 1)) = false := by
  unfold amB at h0 ⊢
  rw [List.take_add_one, h, List.any_append, h0]
  simp [he]
set_option maxRecDepth 100000 in
set_option maxHeartbeats 4000000 in
theorem among_some (s : ByteArray) {l : List ByteArray} {a : Addr} {cp : Nat} {w : World} (hc : ∀ (j : Nat) (s : ByteArray), l[j]? = some s → w.cell? (a.add j) = some (.string s)) (hl : l.length ≤ 2147483648) :
    Calls Tryz.prog 26 #[.slice (some a) l.length cp, .string s] w fun e w' => e = .returned (.bool (amB s l)) ∧ w' = w := by
  have HC := Lib.hid hc
  clear hc
  go_enter Tryz.func26, Tryz.ntmps26
  go_wp2_with (fail)
  go_loopw [9] (fun i wr => ∃ k : Nat, k ≤ l.length ∧ i = .int .i64 k ∧ wr = w ∧ Hid (amB s (l.take k) = false)) (fun i _ => l.length - (intOf i).toNat)
  case atStart => exact ⟨0, Nat.zero_le _, rfl, rfl, (by show _ = _; simp [amB])⟩
  case round =>
    obtain ⟨k, hk, rfl, rfl, HK⟩ := hrel
    by_cases hlt : k < l.length
    · obtain ⟨x, hx⟩ : ∃ x, l[k]? = some x := ⟨_, List.getElem?_eq_getElem hlt⟩
      have c0 := HC.out k x hx
      have HX := Lib.hid hx
      clear hx
      by_cases he : x.toList = s.toList
      · have HD : Hid (amB s l = true) := amB_hit HX.out he
        go_wp2_with (fail)
        go_ret
        exact ⟨by rw [HD.out]; rfl, rfl⟩
      · have HK2 : Hid (amB s (l.take (k + 1)) = false) := amB_miss HX.out he HK.out
        have i1 : (x.toList == s.toList) = false := by simpa using he
        clear he
        go_wp2_with (fail)
        go_roundw
        case rel => exact ⟨k + 1, by omega, by go_num, trivial, HK2⟩
        case measure => simp [intOf]; omega
    · have HD : Hid (amB s l = false) := by show _ = _; rw [← amB_take_end s l k (by omega)]; exact HK.out
      go_wp2_with (fail)
      go_ret
      exact ⟨by rw [HD.out]; rfl, rfl⟩
end Go.Proofs.YtjganhmbjffjfaaGreatDoor
