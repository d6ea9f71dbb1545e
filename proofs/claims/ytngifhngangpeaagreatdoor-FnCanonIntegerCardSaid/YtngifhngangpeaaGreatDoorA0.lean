/- Decimals, plain; a step of the frame. -/
import Derived.Test.YtngifhngangpeaaGreatDoorA2
open Go Go.RowKit
namespace Go.Proofs.YtngifhngangpeaaGreatDoor
theorem below_step {n : Nat} {w W W' : World} (h : Below n w W) (hn : n ≤ w.heap.size) (h2 : Below W.heap.size W W') : Below n w W' := h.trans (h2.mono (Nat.le_trans hn h.size))
theorem split32 : ∀ {l1 l2 r1 r2 : List UInt8}, (∀ x ∈ l1, x ≠ 32) → (∀ x ∈ l2, x ≠ 32) → l1 ++ 32 :: r1 = l2 ++ 32 :: r2 → l1 = l2 ∧ r1 = r2
  | [], [], _, _, _, _, h => by simpa using h
  | [], y :: l2, _, _, _, h2, h => by
    simp only [List.nil_append, List.cons_append, List.cons.injEq] at h
    exact absurd h.1.symm (h2 y List.mem_cons_self)
  | x :: l1, [], _, _, h1, _, h => by
    simp only [List.nil_append, List.cons_append, List.cons.injEq] at h
    exact absurd h.1 (h1 x List.mem_cons_self)
  | x :: l1, y :: l2, r1, r2, h1, h2, h => by
    simp only [List.cons_append, List.cons.injEq] at h
    obtain ⟨e1, e2⟩ := split32 (fun z hz => h1 z (List.mem_cons_of_mem _ hz)) (fun z hz => h2 z (List.mem_cons_of_mem _ hz)) h.2
    exact ⟨by rw [h.1, e1], e2⟩
/-- A decimal's value. -/
def valD (l : List UInt8) : Nat := l.foldl (fun a x => a * 10 + (x.toNat - 48)) 0
theorem valD_snoc (l : List UInt8) (x : UInt8) : valD (l ++ [x]) = valD l * 10 + (x.toNat - 48) := by simp [valD]
theorem dig_toNat (m : Nat) : (UInt8.ofNat (48 + m % 10)).toNat = 48 + m % 10 := UInt8.toNat_ofNat_of_lt' (by show _ < 256; omega)
theorem valD_dec (n : Nat) : valD (Lib.decDigits n) = n := by
  induction n using Nat.strongRecOn with
  | ind n ih =>
    by_cases h : n < 10
    · rw [Lib.decDigits_one h]
      have e : UInt8.ofNat (48 + n) = UInt8.ofNat (48 + n % 10) := by rw [Nat.mod_eq_of_lt h]
      rw [e]
      have := dig_toNat n
      show 0 * 10 + ((UInt8.ofNat (48 + n % 10)).toNat - 48) = n
      rw [this]
      omega
    · rw [dec_step n h, valD_snoc, ih (n / 10) (by omega), dig_toNat]
      omega
theorem dec_no32 (n : Nat) : ∀ x ∈ Lib.decDigits n, x ≠ 32 := by
  induction n using Nat.strongRecOn with
  | ind n ih =>
    intro x hx e
    subst e
    by_cases h : n < 10
    · rw [Lib.decDigits_one h, List.mem_singleton] at hx
      have h2 := congrArg UInt8.toNat hx
      have e : UInt8.ofNat (48 + n) = UInt8.ofNat (48 + n % 10) := by rw [Nat.mod_eq_of_lt h]
      rw [e, dig_toNat] at h2
      have : (32 : UInt8).toNat = 32 := rfl
      omega
    · rw [dec_step n h, List.mem_append, List.mem_singleton] at hx
      rcases hx with hx | hx
      · exact ih (n / 10) (by omega) _ hx rfl
      · have h2 := congrArg UInt8.toNat hx
        rw [dig_toNat] at h2
        have : (32 : UInt8).toNat = 32 := rfl
        omega
end Go.Proofs.YtngifhngangpeaaGreatDoor
