/- laws.plain, laws.segment, laws.quiet. -/
import Derived.Test.YtpanemfpipcggaaGreatDoorF3
import Derived.Deep.Cut
import Derived.Deep.DeepCutAuto
import Derived.Deep.CutBlock
open Go Go.RowKit
namespace Go.Proofs.YtpanemfpipcggaaGreatDoor
/-- A letter, a digit or _. -/
def plC (c : UInt8) : Bool := decide (97 ≤ c.toNat ∧ c.toNat ≤ 122 ∨ 65 ≤ c.toNat ∧ c.toNat ≤ 90 ∨ 48 ≤ c.toNat ∧ c.toNat ≤ 57 ∨ c.toNat = 95)
def plB (l : List UInt8) : Bool := l.all plC && !l.isEmpty
def segB (l : List UInt8) : Bool := plB l && decide (l.length ≤ 60)
def quC (c : UInt8) : Bool := decide (c.toNat ≠ 91 ∧ c.toNat ≠ 92 ∧ c.toNat ≠ 93 ∧ c.toNat < 128 ∧ c.toNat ≠ 0)
def quB (l : List UInt8) : Bool := l.all quC && decide (l.length ≤ 200)
theorem all_take_end {f : UInt8 → Bool} {l : List UInt8} {k : Nat} (h : (l.take k).all f = true) (hk : l.length ≤ k) : l.all f = true := by
  rwa [List.take_of_length_le hk] at h
theorem all_take_step {f : UInt8 → Bool} {s : ByteArray} {k : Nat} (h : (s.data.toList.take k).all f = true) (hk : k < s.size) (hf : f s[k] = true) : (s.data.toList.take (k + 1)).all f = true := by
  rw [List.take_add_one, bs_get s k hk, List.all_append, h]
  simpa using hf
theorem all_take_bad {f : UInt8 → Bool} {s : ByteArray} {k : Nat} (hk : k < s.size) (hf : f s[k] = false) : s.data.toList.all f = false := by
  rw [Bool.eq_false_iff]
  intro h
  have := List.all_eq_true.1 h s[k] (List.mem_of_getElem? (bs_get s k hk))
  rw [hf] at this; cases this
theorem segB_out {l : List UInt8} (h : segB l = true) : (∀ x ∈ l, plC x = true) ∧ l ≠ [] ∧ l.length ≤ 60 := by
  unfold segB plB at h
  simp only [Bool.and_eq_true, List.all_eq_true, decide_eq_true_eq, Bool.not_eq_true', List.isEmpty_eq_false_iff] at h
  exact ⟨h.1.1, h.1.2, h.2⟩
theorem plC_ne {x : UInt8} (h : plC x = true) : x ≠ 47 ∧ x ≠ 42 ∧ x ≠ 63 ∧ x ≠ 91 ∧ x ≠ 92 ∧ x ≠ 93 ∧ x.toNat < 128 := by
  unfold plC at h
  rw [decide_eq_true_eq] at h
  refine ⟨?_, ?_, ?_, ?_, ?_, ?_, by omega⟩ <;> (rintro rfl; simp at h)
/-- A bool that, where true, tells P. -/
def TellP (P : Prop) (w : World) (e : Ending) (w' : World) : Prop := (∃ b : Bool, e = .returned (.bool b) ∧ (b = true → P)) ∧ w = w'
theorem TellP.no {P : Prop} {w : World} : TellP P w (.returned (.bool false)) w := ⟨⟨false, rfl, fun h => by cases h⟩, rfl⟩
theorem TellP.yes {P : Prop} {w : World} (b : Bool) (h : P) : TellP P w (.returned (.bool b)) w := ⟨⟨b, rfl, fun _ => h⟩, rfl⟩
set_option maxRecDepth 100000 in
set_option maxHeartbeats 4000000 in
theorem plain_any (s : ByteArray) (hs : s.size ≤ 140737488355328) (w : World) : Calls Tryz.prog 36 #[.string s] w (TellP (plB s.data.toList = true) w) := by
  go_enter Tryz.func36, Tryz.ntmps36
  go_wp2_with (fail)
  go_loop [3] (fun v => ∃ k : Nat, v = .int .i64 k ∧ k ≤ s.size ∧ Hid ((s.data.toList.take k).all plC = true)) (fun v => s.size - (intOf v).toNat)
  case atStart => exact ⟨0, rfl, Nat.zero_le _, rfl⟩
  case round =>
    obtain ⟨k, rfl, hk, HK⟩ := hrel
    by_cases hlt : k < s.size
    · cases hc : plC s[k] with
      | true =>
        have HK2 := Lib.hid (all_take_step HK.out hlt hc)
        unfold plC at hc
        rw [decide_eq_true_eq] at hc
        rcases hc with h | h | h | h
        · have a1 : (97 : Int) ≤ (s[k].toNat : Int) := by omega
          have a2 : (s[k].toNat : Int) ≤ 122 := by omega
          clear h
          go_wp2_with (fail)
          go_round
          case rel => exact ⟨k + 1, by go_num, by omega, HK2⟩
          case measure => simp [intOf]; omega
        · have a1 : ¬ (97 : Int) ≤ (s[k].toNat : Int) := by omega
          have a2 : (65 : Int) ≤ (s[k].toNat : Int) := by omega
          have a3 : (s[k].toNat : Int) ≤ 90 := by omega
          clear h
          go_wp2_with (fail)
          go_round
          case rel => exact ⟨k + 1, by go_num, by omega, HK2⟩
          case measure => simp [intOf]; omega
        · have a1 : ¬ (97 : Int) ≤ (s[k].toNat : Int) := by omega
          have a2 : ¬ (65 : Int) ≤ (s[k].toNat : Int) := by omega
          have a3 : (48 : Int) ≤ (s[k].toNat : Int) := by omega
          have a4 : (s[k].toNat : Int) ≤ 57 := by omega
          clear h
          go_wp2_with (fail)
          go_round
          case rel => exact ⟨k + 1, by go_num, by omega, HK2⟩
          case measure => simp [intOf]; omega
        · have a0 : ((s[k].toNat : Int) == 95) = true := by rw [beq_iff_eq]; omega
          have a1 : ¬ (97 : Int) ≤ (s[k].toNat : Int) := by omega
          have a2 : (65 : Int) ≤ (s[k].toNat : Int) := by omega
          have a3 : ¬ (s[k].toNat : Int) ≤ 90 := by omega
          have a4 : (48 : Int) ≤ (s[k].toNat : Int) := by omega
          have a5 : ¬ (s[k].toNat : Int) ≤ 57 := by omega
          clear h
          go_wp2_with (fail)
          go_round
          case rel => exact ⟨k + 1, by go_num, by omega, HK2⟩
          case measure => simp [intOf]; omega
      | false =>
        unfold plC at hc
        rw [decide_eq_false_iff_not] at hc
        have a0 : ((s[k].toNat : Int) == 95) = false := by rw [beq_eq_false_iff_ne]; omega
        rcases (show s[k].toNat < 48 ∨ (57 < s[k].toNat ∧ s[k].toNat < 65) ∨ (90 < s[k].toNat ∧ s[k].toNat < 97) ∨ 122 < s[k].toNat by omega) with h | h | h | h
        · have b0 : ¬ (97 : Int) ≤ (s[k].toNat : Int) := by omega
          have b1 : ¬ (65 : Int) ≤ (s[k].toNat : Int) := by omega
          have b2 : ¬ (48 : Int) ≤ (s[k].toNat : Int) := by omega
          clear h hc
          go_wp2_with (fail)
          go_ret
          exact TellP.no
        · have b0 : ¬ (97 : Int) ≤ (s[k].toNat : Int) := by omega
          have b1 : ¬ (65 : Int) ≤ (s[k].toNat : Int) := by omega
          have b2 : (48 : Int) ≤ (s[k].toNat : Int) := by omega
          have b3 : ¬ (s[k].toNat : Int) ≤ 57 := by omega
          clear h hc
          go_wp2_with (fail)
          go_ret
          exact TellP.no
        · have b0 : ¬ (97 : Int) ≤ (s[k].toNat : Int) := by omega
          have b1 : (65 : Int) ≤ (s[k].toNat : Int) := by omega
          have b2 : ¬ (s[k].toNat : Int) ≤ 90 := by omega
          have b3 : (48 : Int) ≤ (s[k].toNat : Int) := by omega
          have b4 : ¬ (s[k].toNat : Int) ≤ 57 := by omega
          clear h hc
          go_wp2_with (fail)
          go_ret
          exact TellP.no
        · have b0 : (97 : Int) ≤ (s[k].toNat : Int) := by omega
          have b1 : ¬ (s[k].toNat : Int) ≤ 122 := by omega
          have b2 : (65 : Int) ≤ (s[k].toNat : Int) := by omega
          have b3 : ¬ (s[k].toNat : Int) ≤ 90 := by omega
          have b4 : (48 : Int) ≤ (s[k].toNat : Int) := by omega
          have b5 : ¬ (s[k].toNat : Int) ≤ 57 := by omega
          clear h hc
          go_wp2_with (fail)
          go_ret
          exact TellP.no
    · by_cases h0 : 0 < s.size
      · have HY : Hid (plB s.data.toList = true) := by
          unfold plB
          rw [all_take_end HK.out (by rw [bs_size_eq]; omega), bs_cons s h0]
          exact Lib.hid rfl
        go_wp2_with (fail)
        go_ret
        exact TellP.yes _ HY.out
      · have e0 : s.toList.isEmpty = true := by rw [Lib.toList_data, bs_nil h0]; rfl
        go_wp2_with (fail)
        go_ret
        exact TellP.no
set_option maxRecDepth 100000 in
set_option maxHeartbeats 4000000 in
theorem segment_any (s : ByteArray) (hs : s.size ≤ 140737488355328) (w : World) : Calls Tryz.prog 21 #[.string s] w (TellP (segB s.data.toList = true) w) := by
  have HP := Lib.hid (plain_any s hs w)
  unfold TellP at HP
  go_enter Tryz.func21, Tryz.ntmps21
  by_cases hl : s.size ≤ 60
  · have i1 : (s.size : Int) ≤ 60 := by omega
    have HL : Hid (s.data.toList.length ≤ 60) := by rw [bs_size_eq]; exact Lib.hid hl
    clear hl
    go_wp2_with (go_at_call 36; refine HP.out.mono ?_; rintro e w1 ⟨⟨b, rfl, hb⟩, rfl⟩; cases b)
    · go_ret
      exact TellP.no
    · have HB := Lib.hid (hb (by first | rfl | trivial))
      clear hb
      go_ret
      exact TellP.yes _ (by unfold segB; rw [HB.out, decide_eq_true HL.out]; rfl)
  · have i1 : decide ((s.size : Int) ≤ 60) = false := decide_eq_false (by omega)
    clear hl
    go_wp2_with (go_at_call 36; refine HP.out.mono ?_; rintro e w1 ⟨⟨b, rfl, hb⟩, rfl⟩; cases b)
    all_goals
      go_ret
      exact TellP.no
set_option maxRecDepth 100000 in
set_option maxHeartbeats 4000000 in
theorem quiet_any (s : ByteArray) (hs : s.size ≤ 140737488355328) (w : World) : Calls Tryz.prog 23 #[.string s] w (TellP (quB s.data.toList = true) w) := by
  go_enter Tryz.func23, Tryz.ntmps23
  go_wp2_with (fail)
  go_loop [3] (fun v => ∃ k : Nat, v = .int .i64 k ∧ k ≤ s.size ∧ Hid ((s.data.toList.take k).all quC = true)) (fun v => s.size - (intOf v).toNat)
  case atStart => exact ⟨0, rfl, Nat.zero_le _, rfl⟩
  case round =>
    obtain ⟨k, rfl, hk, HK⟩ := hrel
    by_cases hlt : k < s.size
    · cases hc : quC s[k] with
      | true =>
        have HK2 := Lib.hid (all_take_step HK.out hlt hc)
        unfold quC at hc
        rw [decide_eq_true_eq] at hc
        have a1 : ((s[k].toNat : Int) == 91) = false := by rw [beq_eq_false_iff_ne]; omega
        have a2 : ((s[k].toNat : Int) == 92) = false := by rw [beq_eq_false_iff_ne]; omega
        have a3 : ((s[k].toNat : Int) == 93) = false := by rw [beq_eq_false_iff_ne]; omega
        have a4 : ¬ (128 : Int) ≤ (s[k].toNat : Int) := by omega
        have a5 : ((s[k].toNat : Int) == 0) = false := by rw [beq_eq_false_iff_ne]; omega
        clear hc
        go_wp2_with (fail)
        go_round
        case rel => exact ⟨k + 1, by go_num, by omega, HK2⟩
        case measure => simp [intOf]; omega
      | false =>
        unfold quC at hc
        rw [decide_eq_false_iff_not] at hc
        go_wp2_with (fail)
        all_goals first
          | (go_ret; exact TellP.no)
          | (exfalso; simp only [beq_eq_false_iff_ne, ne_eq] at *; omega)
    · by_cases hl : s.size ≤ 200
      · have HY : Hid (quB s.data.toList = true) := by
          unfold quB
          rw [all_take_end HK.out (by rw [bs_size_eq]; omega), bs_size_eq, decide_eq_true hl]
          exact Lib.hid rfl
        have i1 : (s.size : Int) ≤ 200 := by omega
        go_wp2_with (fail)
        go_ret
        exact TellP.yes _ HY.out
      · have i1 : decide ((s.size : Int) ≤ 200) = false := decide_eq_false (by omega)
        go_wp2_with (fail)
        go_ret
        exact TellP.no
end Go.Proofs.YtpanemfpipcggaaGreatDoor
