/- laws.number answers true only where a digit stands. -/
import Derived.Test.YtjganhmbjffjfaaGreatDoorT5
import Derived.Deep.Cut
import Derived.Deep.DeepCutAuto
import Derived.Deep.CutBlock
open Go Go.RowKit
namespace Go.Proofs.YtjganhmbjffjfaaGreatDoor
/-- Something stands behind an optional '-'. -/
def HasD (s : ByteArray) : Prop := 0 < s.size ∧ ∀ h : 0 < s.size, s[0].toNat = 45 → 1 < s.size
def SomeBd (s : ByteArray) (w : World) (e : Ending) (w' : World) : Prop := ∃ b : Bool, e = .returned (.bool b) ∧ w = w' ∧ (b = true → HasD s)
/-- Where the digits begin. -/
def FromD (s : ByteArray) (k : Nat) : Prop := (k = 0 ∧ ∀ h : 0 < s.size, s[0].toNat ≠ 45) ∨ k = 1
theorem FromD.has {s : ByteArray} {k k1 : Nat} (h : FromD s k) (h1 : k < k1) (h2 : k1 ≤ s.size) : HasD s := by
  rcases h with ⟨rfl, h⟩ | rfl
  · exact ⟨by omega, fun h0 e => absurd e (h h0)⟩
  · exact ⟨by omega, fun _ _ => by omega⟩
set_option maxRecDepth 100000 in
set_option maxHeartbeats 16000000 in
theorem number_dig (s : ByteArray) (hs : s.size ≤ 2147483647) (w : World) : Calls Tryz.prog 57 #[.string s] w (SomeBd s w) := by
  go_enter Tryz.func57, Tryz.ntmps57
  go_upto_region 2 with (fail)
  go_cut [14] (fun b wx => ∃ x : Bool, b = .bool x ∧ (x = true → 0 < s.size) ∧ (x = false → ∀ h : 0 < s.size, s[0].toNat ≠ 45) ∧ w = wx)
  case first =>
    as_aux_lemma =>
      by_cases h0 : 0 < s.size
      · have g0 : decide (((0 : Nat) : Int) < (s.size : Int)) = true := decide_eq_true (by omega)
        by_cases d0 : s[0].toNat = 45
        · have d1 : ((s[0].toNat : Int) == 45) = true := by simp; omega
          go_wp2_with (fail)
          all_goals (go_meet; (case rel => exact ⟨_, rfl, fun _ => h0, fun h => by simp at h, rfl⟩))
        · have d1 : ((s[0].toNat : Int) == 45) = false := by simp; omega
          go_wp2_with (fail)
          all_goals (go_meet; (case rel => exact ⟨_, rfl, fun _ => h0, fun _ _ => d0, rfl⟩))
      · have g0 : decide (((0 : Nat) : Int) < (s.size : Int)) = false := decide_eq_false (by omega)
        go_wp2_with (fail)
        all_goals (go_meet; (case rel => exact ⟨_, rfl, fun h => by simp at h, fun _ h => absurd h h0, rfl⟩))
  case rest =>
    obtain ⟨x, rfl, hx, hx2, rfl⟩ := hcut
    go_upto_if 14 with (fail)
    go_cut [3] (fun i wx => ∃ k : Nat, i = .int .i64 k ∧ k ≤ s.size ∧ Hid (FromD s k) ∧ w = wx)
    case first =>
      as_aux_lemma =>
        cases x with
        | true =>
          have h0 := hx rfl
          clear hx hx2
          go_wp2_with (fail)
          go_meet
          case rel => exact ⟨1, rfl, by omega, Lib.hid (.inr rfl), rfl⟩
        | false =>
          have HF : Hid (FromD s 0) := Lib.hid (.inl ⟨rfl, hx2 rfl⟩)
          clear hx hx2
          go_wp2_with (fail)
          go_meet
          case rel => exact ⟨0, rfl, by omega, HF, rfl⟩
    case rest =>
      obtain ⟨k0, rfl, hk0, HFD, rfl⟩ := hcut
      clear hx hx2
      go_upto_block 0 with (fail)
      go_cut [3] (fun i wx => ∃ k : Nat, i = .int .i64 k ∧ k0 ≤ k ∧ k ≤ s.size ∧ w = wx)
      case first =>
        as_aux_lemma =>
          go_wp2_with (fail)
          go_loop [3] (fun i => ∃ k : Nat, i = .int .i64 k ∧ k0 ≤ k ∧ k ≤ s.size) (fun i => s.size - (intOf i).toNat)
          case atStart => exact ⟨k0, by first | rfl | go_num, Nat.le_refl _, by omega⟩
          case round =>
            obtain ⟨k, rfl, hk, hk'⟩ := hrel
            by_cases hlt : k < s.size
            · have g1 : decide ((k : Int) < (s.size : Int)) = true := decide_eq_true (by omega)
              by_cases d1 : 48 ≤ s[k].toNat ∧ s[k].toNat ≤ 57
              · have d2 : (48 : Int) ≤ (s[k].toNat : Int) := by omega
                have d3 : (s[k].toNat : Int) ≤ 57 := by omega
                go_wp2_with (fail)
                go_round
                case rel => exact ⟨k + 1, by go_num, by omega, by omega⟩
                case measure => simp [intOf]; omega
              · go_wp2_with (fail)
                all_goals (try (exfalso; omega))
                all_goals
                  go_meet
                  (case rel => exact ⟨k, rfl, hk, hk', rfl⟩)
            · have g1 : decide ((k : Int) < (s.size : Int)) = false := decide_eq_false (by omega)
              go_wp2_with (fail)
              all_goals (try (exfalso; omega))
              all_goals
                go_meet
                (case rel => exact ⟨k, rfl, hk, hk', rfl⟩)
      case rest =>
        obtain ⟨k1, rfl, hk1, hk1', rfl⟩ := hcut
        go_upto_region 7 with (fail)
        go_cut [50] (fun b wx => ∃ x : Bool, b = .bool x ∧ (x = false → k0 < k1) ∧ w = wx)
        case first =>
          as_aux_lemma =>
            by_cases h0 : k1 = k0
            · have g0 : ((k1 : Int) == (k0 : Int)) = true := by simp; omega
              go_wp2_with (fail)
              all_goals (go_meet; (case rel => exact ⟨_, rfl, fun h => by simp at h, rfl⟩))
            · have g0 : ((k1 : Int) == (k0 : Int)) = false := by simp; omega
              have g1 : k0 < s.size := by omega
              have g2 : (k0 : Int) < (s.size : Int) := by omega
              go_wp2_with (fail)
              all_goals (go_meet; (case rel => exact ⟨_, rfl, fun _ => by omega, rfl⟩))
        case rest =>
          obtain ⟨x, rfl, hx, rfl⟩ := hcut
          cases x with
          | true =>
            clear hx
            go_wp2_with (fail)
            go_ret
            exact ⟨_, rfl, rfl, fun h => by simp at h⟩
          | false =>
            have HD : Hid (HasD s) := Lib.hid (HFD.out.has (hx rfl) hk1')
            clear hx
            go_upto_region 9 with (fail)
            go_cut [60] (fun b wx => ∃ x : Bool, b = .bool x ∧ (x = true → k1 < s.size) ∧ w = wx)
            case first =>
              as_aux_lemma =>
                by_cases h0 : k1 < s.size
                · have g0 : decide (((k1 : Nat) : Int) < (s.size : Int)) = true := decide_eq_true (by omega)
                  go_wp2_with (fail)
                  all_goals (go_meet; (case rel => exact ⟨_, rfl, fun _ => h0, rfl⟩))
                · have g0 : decide (((k1 : Nat) : Int) < (s.size : Int)) = false := decide_eq_false (by omega)
                  go_wp2_with (fail)
                  all_goals (go_meet; (case rel => exact ⟨_, rfl, fun h => by simp at h, rfl⟩))
            case rest =>
              obtain ⟨x, rfl, hx, rfl⟩ := hcut
              go_upto_if 60 with (fail)
              go_cut [3] (fun i wx => ∃ k : Nat, i = .int .i64 k ∧ k ≤ s.size ∧ w = wx)
              case first =>
                as_aux_lemma =>
                  cases x with
                  | true =>
                    have h0 := hx rfl
                    clear hx
                    go_wp2_with (fail)
                    go_loop [3] (fun i => ∃ k : Nat, i = .int .i64 k ∧ (k1 + 1) ≤ k ∧ k ≤ s.size) (fun i => s.size - (intOf i).toNat)
                    case atStart => exact ⟨(k1 + 1), by first | rfl | go_num, Nat.le_refl _, by omega⟩
                    case round =>
                      obtain ⟨k, rfl, hk, hk'⟩ := hrel
                      by_cases hlt : k < s.size
                      · have g1 : decide ((k : Int) < (s.size : Int)) = true := decide_eq_true (by omega)
                        by_cases d1 : 48 ≤ s[k].toNat ∧ s[k].toNat ≤ 57
                        · have d2 : (48 : Int) ≤ (s[k].toNat : Int) := by omega
                          have d3 : (s[k].toNat : Int) ≤ 57 := by omega
                          go_wp2_with (fail)
                          go_round
                          case rel => exact ⟨k + 1, by go_num, by omega, by omega⟩
                          case measure => simp [intOf]; omega
                        · go_wp2_with (fail)
                          all_goals (try (exfalso; omega))
                          all_goals
                            first
                              | (go_ret; exact ⟨_, rfl, rfl, fun _ => HD.out⟩)
                              | (go_meet; (case rel => exact ⟨k, rfl, hk', rfl⟩))
                      · have g1 : decide ((k : Int) < (s.size : Int)) = false := decide_eq_false (by omega)
                        go_wp2_with (fail)
                        all_goals (try (exfalso; omega))
                        all_goals
                          first
                            | (go_ret; exact ⟨_, rfl, rfl, fun _ => HD.out⟩)
                            | (go_meet; (case rel => exact ⟨k, rfl, hk', rfl⟩))
                  | false =>
                    clear hx
                    go_wp2_with (fail)
                    go_meet
                    case rel => exact ⟨k1, rfl, hk1', rfl⟩
              case rest =>
                obtain ⟨k2, rfl, hk2, rfl⟩ := hcut
                clear hx
                go_upto_region 16 with (fail)
                go_cut [100] (fun b wx => ∃ x : Bool, b = .bool x ∧ (x = true → k2 < s.size) ∧ w = wx)
                case first =>
                  as_aux_lemma =>
                    by_cases h0 : k2 < s.size
                    · have g0 : decide (((k2 : Nat) : Int) < (s.size : Int)) = true := decide_eq_true (by omega)
                      go_wp2_with (fail)
                      all_goals (go_meet; (case rel => exact ⟨_, rfl, fun _ => h0, rfl⟩))
                    · have g0 : decide (((k2 : Nat) : Int) < (s.size : Int)) = false := decide_eq_false (by omega)
                      go_wp2_with (fail)
                      all_goals (go_meet; (case rel => exact ⟨_, rfl, fun h => by simp at h, rfl⟩))
                case rest =>
                  obtain ⟨x, rfl, hx, rfl⟩ := hcut
                  go_upto_if 100 with (fail)
                  go_cut [3] (fun i wx => ∃ k : Nat, i = .int .i64 k ∧ k ≤ s.size ∧ w = wx)
                  case first =>
                    as_aux_lemma =>
                      cases x with
                      | true =>
                        have h0 := hx rfl
                        clear hx
                        go_upto_region 18 with (fail)
                        go_cut [118] (fun b wx => ∃ x : Bool, b = .bool x ∧ (x = true → (k2 + 1) < s.size) ∧ w = wx)
                        case first =>
                          by_cases h0 : (k2 + 1) < s.size
                          · have g0 : decide ((k2 : Int) + 1 < (s.size : Int)) = true := decide_eq_true (by omega)
                            go_wp2_with (fail)
                            all_goals (go_meet; (case rel => exact ⟨_, rfl, fun _ => h0, rfl⟩))
                          · have g0 : decide ((k2 : Int) + 1 < (s.size : Int)) = false := decide_eq_false (by omega)
                            go_wp2_with (fail)
                            all_goals (go_meet; (case rel => exact ⟨_, rfl, fun h => by simp at h, rfl⟩))
                        case rest =>
                          obtain ⟨y, rfl, hy, rfl⟩ := hcut
                          go_upto_if 118 with (fail)
                          go_cut [3] (fun i wx => ∃ k : Nat, i = .int .i64 k ∧ k ≤ s.size ∧ w = wx)
                          case first =>
                            cases y with
                            | true =>
                              have h1 := hy rfl
                              clear hy
                              go_wp2_with (fail)
                              go_meet
                              case rel => exact ⟨k2 + 1 + 1, by go_num, by omega, rfl⟩
                            | false =>
                              clear hy
                              go_wp2_with (fail)
                              go_meet
                              case rel => exact ⟨k2 + 1, by go_num, by omega, rfl⟩
                          case rest =>
                            obtain ⟨k3, rfl, hk3, rfl⟩ := hcut
                            clear hy
                            go_wp2_with (fail)
                            go_loop [3] (fun i => ∃ k : Nat, i = .int .i64 k ∧ k3 ≤ k ∧ k ≤ s.size) (fun i => s.size - (intOf i).toNat)
                            case atStart => exact ⟨k3, by first | rfl | go_num, Nat.le_refl _, by omega⟩
                            case round =>
                              obtain ⟨k, rfl, hk, hk'⟩ := hrel
                              by_cases hlt : k < s.size
                              · have g1 : decide ((k : Int) < (s.size : Int)) = true := decide_eq_true (by omega)
                                by_cases d1 : 48 ≤ s[k].toNat ∧ s[k].toNat ≤ 57
                                · have d2 : (48 : Int) ≤ (s[k].toNat : Int) := by omega
                                  have d3 : (s[k].toNat : Int) ≤ 57 := by omega
                                  go_wp2_with (fail)
                                  go_round
                                  case rel => exact ⟨k + 1, by go_num, by omega, by omega⟩
                                  case measure => simp [intOf]; omega
                                · go_wp2_with (fail)
                                  all_goals (try (exfalso; omega))
                                  all_goals
                                    first
                                      | (go_ret; exact ⟨_, rfl, rfl, fun _ => HD.out⟩)
                                      | (go_meet; (case rel => exact ⟨k, rfl, hk', rfl⟩))
                              · have g1 : decide ((k : Int) < (s.size : Int)) = false := decide_eq_false (by omega)
                                go_wp2_with (fail)
                                all_goals (try (exfalso; omega))
                                all_goals
                                  first
                                    | (go_ret; exact ⟨_, rfl, rfl, fun _ => HD.out⟩)
                                    | (go_meet; (case rel => exact ⟨k, rfl, hk', rfl⟩))
                      | false =>
                        clear hx
                        go_wp2_with (fail)
                        go_meet
                        case rel => exact ⟨k2, rfl, hk2, rfl⟩
                  case rest =>
                    obtain ⟨k4, rfl, hk4, rfl⟩ := hcut
                    clear hx
                    go_wp2_with (fail)
                    all_goals (go_ret; exact ⟨_, rfl, rfl, fun _ => HD.out⟩)
end Go.Proofs.YtjganhmbjffjfaaGreatDoor
