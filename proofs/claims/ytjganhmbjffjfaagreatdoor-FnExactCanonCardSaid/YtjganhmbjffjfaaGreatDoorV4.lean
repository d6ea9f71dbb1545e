/- laws.valid, at every string that a machine holds. -/
import Derived.Test.YtjganhmbjffjfaaGreatDoorV1
open Go Go.RowKit
namespace Go.Proofs.YtjganhmbjffjfaaGreatDoor
set_option maxRecDepth 100000 in
set_option maxHeartbeats 4000000 in
theorem valid_big (s : ByteArray) (hs : s.size ≤ 140737488355328) (w : World) : Calls Tryz.prog 58 #[.string s] w (VldP s w) := by
  go_enter Tryz.func58, Tryz.ntmps58
  go_wp2_with (fail)
  go_loopw [] (fun wr => ∃ pos b : Nat, wr = w.iter s pos ∧ Hid (vld s b pos = vld s s.size 0 ∧ s.size ≤ pos + b)) (fun wr => s.size - wr.iterPos w.heap.size)
  case atStart => exact ⟨0, s.size, rfl, rfl, by omega⟩
  case round =>
    obtain ⟨pos, b, rfl, HC⟩ := hrel
    by_cases hp : pos < s.size
    · have hnx : ∀ ty, (Instr.next (.pointer (some ⟨w.heap.size, 0, none⟩)) true ty).run Tryz.prog (w.iter s pos) = _ := fun ty => run_next_any w s pos ty hp
      obtain ⟨b, rfl⟩ : ∃ c, b = c + 1 := ⟨b - 1, by have := HC.out.2; omega⟩
      have HW := Lib.hid (width_pos s pos hp)
      by_cases h1 : (Utf8.decode s pos).1 = 65533
      · by_cases h3 : s.size < pos + 3
        · have i1 : ((Utf8.decode s pos).1 : Int) = 65533 := by omega
          have i2 : (s.size : Int) < (pos : Int) + 3 := by omega
          have HF := Lib.hid (vld_bad s b pos hp h1 (ext_short s pos h3))
          clear h1 h3
          go_wp2_with (fail)
          go_ret
          exact VldP.mk' HC.out.1 HF.out _
        · have i1 : ((Utf8.decode s pos).1 : Int) = 65533 := by omega
          have i2 : ¬ (s.size : Int) < (pos : Int) + 3 := by omega
          cases h4 : (s.extract pos (pos + 3)).toList == [239, 191, 189] with
          | true =>
            have HF := Lib.hid (vld_ok s b pos hp (fun h => h.2 (by simpa using h4)))
            clear h1 h3
            go_wp2_with (fail)
            go_roundw
            case rel => exact ⟨_, b, rfl, by rw [← HF.out]; exact HC.out.1, by have := HC.out.2; have := HW.out; omega⟩
            case measure => simp; have := HW.out; omega
          | false =>
            have HF := Lib.hid (vld_bad s b pos hp h1 (by simpa using h4))
            clear h1 h3
            go_wp2_with (fail)
            go_ret
            exact VldP.mk' HC.out.1 HF.out _
      · have i1 : ¬ ((Utf8.decode s pos).1 : Int) = 65533 := by omega
        have HF := Lib.hid (vld_ok s b pos hp (fun h => h1 h.1))
        clear h1
        go_wp2_with (fail)
        go_roundw
        case rel => exact ⟨_, b, rfl, by rw [← HF.out]; exact HC.out.1, by have := HC.out.2; have := HW.out; omega⟩
        case measure => simp; have := HW.out; omega
    · have hnx : ∀ ty, (Instr.next (.pointer (some ⟨w.heap.size, 0, none⟩)) true ty).run Tryz.prog (w.iter s pos) = _ := fun ty => run_next_end w s pos ty hp
      have HF := Lib.hid (vld_end s b pos hp)
      go_wp2_with (fail)
      go_ret
      exact VldP.mk' HC.out.1 HF.out _
end Go.Proofs.YtjganhmbjffjfaaGreatDoor
