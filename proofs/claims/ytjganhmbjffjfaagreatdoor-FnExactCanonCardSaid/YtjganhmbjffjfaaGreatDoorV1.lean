/- laws.valid. -/
import Derived.Test.YtjganhmbjffjfaaGreatDoorT0
import Derived.Laws.RangeString
import Derived.Laws.RangeAny
open Go Go.RowKit
namespace Go.Proofs.YtjganhmbjffjfaaGreatDoor
theorem width_pos (s : ByteArray) (pos : Nat) (h : pos < s.size) : 1 ≤ (Utf8.decode s pos).2 := by
  by_cases ha : (s[pos]'h).toNat < 128
  · rw [decode_ascii s pos h ha]
    exact Nat.le_refl _
  · exact (decode_high s pos h (by omega)).2
/-- From pos on (b steps at most) all is well. -/
def vld (s : ByteArray) : Nat → Nat → Bool
  | 0, _ => true
  | b + 1, pos => if pos < s.size then (if (Utf8.decode s pos).1 = 65533 ∧ (s.extract pos (pos + 3)).toList ≠ [239, 191, 189] then false else vld s b (pos + (Utf8.decode s pos).2)) else true
theorem vld_end (s : ByteArray) (b pos : Nat) (h : ¬ pos < s.size) : vld s b pos = true := by
  cases b with
  | zero => rfl
  | succ b => simp [vld, h]
theorem vld_bad (s : ByteArray) (b pos : Nat) (h : pos < s.size) (h1 : (Utf8.decode s pos).1 = 65533) (h2 : (s.extract pos (pos + 3)).toList ≠ [239, 191, 189]) : vld s (b + 1) pos = false := by
  simp [vld, h, h1, h2]
theorem vld_ok (s : ByteArray) (b pos : Nat) (h : pos < s.size) (h1 : ¬ ((Utf8.decode s pos).1 = 65533 ∧ (s.extract pos (pos + 3)).toList ≠ [239, 191, 189])) : vld s (b + 1) pos = vld s b (pos + (Utf8.decode s pos).2) := by
  simp only [vld, if_pos h, if_neg h1]
theorem ext_short (s : ByteArray) (pos : Nat) (h : s.size < pos + 3) : (s.extract pos (pos + 3)).toList ≠ [239, 191, 189] := by
  intro e
  have := congrArg List.length e
  rw [ByteArray.toList_eq] at this
  simp at this
  omega
theorem iter_below (w : World) (s : ByteArray) (pos : Nat) : Below w.heap.size w (w.iter s pos) := by
  unfold World.iter
  exact (Below.refl _ _).alloc (Nat.le_refl _) _
/-- What valid tells. -/
def VldP (s : ByteArray) (w : World) (e : Ending) (w' : World) : Prop := e = .returned (.bool (vld s s.size 0)) ∧ Below w.heap.size w w'
theorem VldP.mk' {s : ByteArray} {w : World} {b pos : Nat} {r : Bool} (hc : vld s b pos = vld s s.size 0) (h : vld s b pos = r) (pos' : Nat) : VldP s w (.returned (.bool r)) (w.iter s pos') := ⟨by rw [← hc, h], iter_below _ _ _⟩
set_option maxRecDepth 100000 in
set_option maxHeartbeats 4000000 in
theorem valid_any (s : ByteArray) (hs : s.size ≤ 2147483647) (w : World) : Calls Tryz.prog 58 #[.string s] w (VldP s w) := by
  go_enter Tryz.func58, Tryz.ntmps58
  go_wp2_with (fail)
  go_loopw [] (fun wr => ∃ pos b : Nat, wr = w.iter s pos ∧ Hid (vld s b pos = vld s s.size 0 ∧ s.size ≤ pos + b)) (fun wr => s.size - wr.iterPos w.heap.size)
  case atStart => exact ⟨0, s.size, rfl, rfl, by omega⟩
  case round =>
    obtain ⟨pos, b, rfl, HC⟩ := hrel
    by_cases hp : pos < s.size
    · have hnx : ∀ ty, (Instr.next (.pointer (some ⟨w.heap.size, 0, none⟩)) true ty).run Tryz.prog (w.iter s pos) = _ := fun ty => run_next_any w s pos ty hp
      obtain ⟨b, rfl⟩ : ∃ c, b = c + 1 := ⟨b - 1, by have := HC.out.2; omega⟩
      have HW := Lib.hid (width_pos s pos hp)
      by_cases h1 : (Utf8.decode s pos).1 = 65533
      · by_cases h3 : s.size < pos + 3
        · have i1 : ((Utf8.decode s pos).1 : Int) = 65533 := by omega
          have i2 : (s.size : Int) < (pos : Int) + 3 := by omega
          have HF := Lib.hid (vld_bad s b pos hp h1 (ext_short s pos h3))
          clear h1 h3
          go_wp2_with (fail)
          go_ret
          exact VldP.mk' HC.out.1 HF.out _
        · have i1 : ((Utf8.decode s pos).1 : Int) = 65533 := by omega
          have i2 : ¬ (s.size : Int) < (pos : Int) + 3 := by omega
          cases h4 : (s.extract pos (pos + 3)).toList == [239, 191, 189] with
          | true =>
            have HF := Lib.hid (vld_ok s b pos hp (fun h => h.2 (by simpa using h4)))
            clear h1 h3
            go_wp2_with (fail)
            go_roundw
            case rel => exact ⟨_, b, rfl, by rw [← HF.out]; exact HC.out.1, by have := HC.out.2; have := HW.out; omega⟩
            case measure => simp; have := HW.out; omega
          | false =>
            have HF := Lib.hid (vld_bad s b pos hp h1 (by simpa using h4))
            clear h1 h3
            go_wp2_with (fail)
            go_ret
            exact VldP.mk' HC.out.1 HF.out _
      · have i1 : ¬ ((Utf8.decode s pos).1 : Int) = 65533 := by omega
        have HF := Lib.hid (vld_ok s b pos hp (fun h => h1 h.1))
        clear h1
        go_wp2_with (fail)
        go_roundw
        case rel => exact ⟨_, b, rfl, by rw [← HF.out]; exact HC.out.1, by have := HC.out.2; have := HW.out; omega⟩
        case measure => simp; have := HW.out; omega
    · have hnx : ∀ ty, (Instr.next (.pointer (some ⟨w.heap.size, 0, none⟩)) true ty).run Tryz.prog (w.iter s pos) = _ := fun ty => run_next_end w s pos ty hp
      have HF := Lib.hid (vld_end s b pos hp)
      go_wp2_with (fail)
      go_ret
      exact VldP.mk' HC.out.1 HF.out _
end Go.Proofs.YtjganhmbjffjfaaGreatDoor
