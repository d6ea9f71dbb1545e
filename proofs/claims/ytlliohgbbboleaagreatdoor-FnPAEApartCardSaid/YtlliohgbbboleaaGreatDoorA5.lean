/- Unlike pairs have unlike encodings, plain; laws.short at two strings. -/
import Derived.Test.YtlliohgbbboleaaGreatDoorA4
open Go Go.RowKit
namespace Go.Proofs.YtlliohgbbboleaaGreatDoor
theorem split32 : ∀ {l1 l2 r1 r2 : List UInt8}, (∀ x ∈ l1, x ≠ 32) → (∀ x ∈ l2, x ≠ 32) → l1 ++ 32 :: r1 = l2 ++ 32 :: r2 → l1 = l2 ∧ r1 = r2
  | [], [], _, _, _, _, h => by simpa using h
  | [], y :: l2, _, _, _, h2, h => by
    simp only [List.nil_append, List.cons_append, List.cons.injEq] at h
    exact absurd h.1.symm (h2 y List.mem_cons_self)
  | x :: l1, [], _, _, h1, _, h => by
    simp only [List.nil_append, List.cons_append, List.cons.injEq] at h
    exact absurd h.1 (h1 x List.mem_cons_self)
  | x :: l1, y :: l2, r1, r2, h1, h2, h => by
    simp only [List.cons_append, List.cons.injEq] at h
    obtain ⟨e1, e2⟩ := split32 (fun z hz => h1 z (List.mem_cons_of_mem _ hz)) (fun z hz => h2 z (List.mem_cons_of_mem _ hz)) h.2
    exact ⟨by rw [h.1, e1], e2⟩
/-- A decimal's value. -/
def valD (l : List UInt8) : Nat := l.foldl (fun a x => a * 10 + (x.toNat - 48)) 0
theorem valD_snoc (l : List UInt8) (x : UInt8) : valD (l ++ [x]) = valD l * 10 + (x.toNat - 48) := by simp [valD]
theorem dig_toNat (m : Nat) : (UInt8.ofNat (48 + m % 10)).toNat = 48 + m % 10 := UInt8.toNat_ofNat_of_lt' (by show _ < 256; omega)
theorem valD_dec (n : Nat) : valD (Lib.decDigits n) = n := by
  induction n using Nat.strongRecOn with
  | ind n ih =>
    by_cases h : n < 10
    · rw [Lib.decDigits_one h]
      have e : UInt8.ofNat (48 + n) = UInt8.ofNat (48 + n % 10) := by rw [Nat.mod_eq_of_lt h]
      rw [e]
      have := dig_toNat n
      show 0 * 10 + ((UInt8.ofNat (48 + n % 10)).toNat - 48) = n
      rw [this]
      omega
    · rw [dec_step n h, valD_snoc, ih (n / 10) (by omega), dig_toNat]
      omega
theorem dec_no32 (n : Nat) : ∀ x ∈ Lib.decDigits n, x ≠ 32 := by
  induction n using Nat.strongRecOn with
  | ind n ih =>
    intro x hx e
    subst e
    by_cases h : n < 10
    · rw [Lib.decDigits_one h, List.mem_singleton] at hx
      have h2 := congrArg UInt8.toNat hx
      have e : UInt8.ofNat (48 + n) = UInt8.ofNat (48 + n % 10) := by rw [Nat.mod_eq_of_lt h]
      rw [e, dig_toNat] at h2
      have : (32 : UInt8).toNat = 32 := rfl
      omega
    · rw [dec_step n h, List.mem_append, List.mem_singleton] at hx
      rcases hx with hx | hx
      · exact ih (n / 10) (by omega) _ hx rfl
      · have h2 := congrArg UInt8.toNat hx
        rw [dig_toNat] at h2
        have : (32 : UInt8).toNat = 32 := rfl
        omega
theorem paeB_inj {a b x y : List UInt8} (h : paeB a x = paeB b y) : a = b ∧ x = y := by
  unfold paeB at h
  rw [Lib.itoa_nonneg, Lib.itoa_nonneg, Lib.itoa_nonneg, Lib.itoa_nonneg] at h
  simp only [List.append_assoc, List.cons_append, List.nil_append, List.cons.injEq, true_and] at h
  obtain ⟨e1, e2⟩ := split32 (dec_no32 _) (dec_no32 _) h
  have hl : a.length = b.length := by rw [← valD_dec a.length, e1, valD_dec]
  obtain ⟨e3, e4⟩ := List.append_inj e2 hl
  simp only [List.cons.injEq, true_and] at e4
  obtain ⟨_, e6⟩ := split32 (dec_no32 _) (dec_no32 _) e4
  exact ⟨e3, e6⟩
set_option maxRecDepth 100000 in
set_option maxHeartbeats 4000000 in
theorem short_2 (n : Nat) (a b : ByteArray) (g : Nat) (w : World) (_hn : n ≤ 65536) (hg : w.heap[g]? = some (.cells #[.string a, .string b] 9 (0, 0))) :
    Calls Tryz.prog 12 #[.int .i64 n, .slice (some ⟨g, 0, none⟩) 2 2] w fun e w' => e = .returned (.bool (decide (a.size ≤ n ∧ b.size ≤ n))) ∧ w' = w := by
  have c0 : w.cell? ⟨g, 0, none⟩ = some (.string a) := by simp [World.cell?, hg]
  have c1 : w.cell? ⟨g, 1, none⟩ = some (.string b) := by simp [World.cell?, hg]
  clear hg
  by_cases h1 : a.size ≤ n
  · by_cases h2 : b.size ≤ n
    · have i1 : ¬ (n : Int) < (a.size : Int) := by omega
      have i2 : ¬ (n : Int) < (b.size : Int) := by omega
      have hd : decide (a.size ≤ n ∧ b.size ≤ n) = true := decide_eq_true ⟨h1, h2⟩
      rw [hd]
      clear hd
      go_enter Tryz.func12, Tryz.ntmps12
      go_wp2_with (fail)
      refine wp_loop_rounds 4 ?_
      rw [rounds_succ]
      go_wp2_with (fail)
      rw [rounds_succ]
      go_wp2_with (fail)
      rw [rounds_succ]
      go_wp2_with (fail)
      go_ret
      exact ⟨rfl, rfl⟩
    · have i1 : ¬ (n : Int) < (a.size : Int) := by omega
      have i2 : (n : Int) < (b.size : Int) := by omega
      have hd : decide (a.size ≤ n ∧ b.size ≤ n) = false := decide_eq_false fun h => h2 h.2
      rw [hd]
      clear hd
      go_enter Tryz.func12, Tryz.ntmps12
      go_wp2_with (fail)
      refine wp_loop_rounds 4 ?_
      rw [rounds_succ]
      go_wp2_with (fail)
      rw [rounds_succ]
      go_wp2_with (fail)
      go_ret
      exact ⟨rfl, rfl⟩
  · have i1 : (n : Int) < (a.size : Int) := by omega
    have hd : decide (a.size ≤ n ∧ b.size ≤ n) = false := decide_eq_false fun h => h1 h.1
    rw [hd]
    clear hd
    go_enter Tryz.func12, Tryz.ntmps12
    go_wp2_with (fail)
    refine wp_loop_rounds 4 ?_
    rw [rounds_succ]
    go_wp2_with (fail)
    go_ret
    exact ⟨rfl, rfl⟩
end Go.Proofs.YtlliohgbbboleaaGreatDoor
