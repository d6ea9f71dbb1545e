/- Decimal digits, read back: plain. -/
import Derived.Test.YtngifhngangpeaaGreatDoorA0
import Derived.Lib.ParseIntBCases
open Go Go.RowKit
namespace Go.Proofs.YtngifhngangpeaaGreatDoor
/-- What digits spell behind acc. -/
def dvF (acc : Nat) (l : List UInt8) : Nat := l.foldl (fun a x => a * 10 + (x.toNat - 48)) acc
theorem dvF_ge : ∀ (l : List UInt8) (acc : Nat), acc ≤ dvF acc l
  | [], _ => Nat.le_refl _
  | x :: l, acc => by
    have h := dvF_ge l (acc * 10 + (x.toNat - 48))
    unfold dvF at h ⊢
    rw [List.foldl_cons]
    omega
theorem pum (M B : Nat) (hB : B < 1844674407370955162) (hM : B ≤ M) : ∀ (l : List UInt8) (acc : Nat) (r : List UInt8), (∀ x ∈ l, 48 ≤ x.toNat ∧ x.toNat ≤ 57) → dvF acc l ≤ B →
    Lib.parseUintM M acc (l ++ r) = Lib.parseUintM M (dvF acc l) r
  | [], _, _, _, _ => rfl
  | x :: l, acc, r, hx, hb => by
    have h1 := hx x List.mem_cons_self
    have h2 : dvF acc (x :: l) = dvF (acc * 10 + (x.toNat - 48)) l := rfl
    have h3 := dvF_ge l (acc * 10 + (x.toNat - 48))
    rw [List.cons_append, Lib.parseUintM, if_pos h1, if_neg (by omega), if_neg (by omega), h2]
    exact pum M B hB hM l _ r (fun y hy => hx y (List.mem_cons_of_mem _ hy)) (by rw [← h2]; exact hb)
theorem dvF_dec (n : Nat) : dvF 0 (Lib.decDigits n) = n := valD_dec n
theorem dec_dig (n : Nat) : ∀ x ∈ Lib.decDigits n, 48 ≤ x.toNat ∧ x.toNat ≤ 57 := by
  induction n using Nat.strongRecOn with
  | ind n ih =>
    intro x hx
    by_cases h : n < 10
    · rw [Lib.decDigits_one h, List.mem_singleton] at hx
      have h2 := congrArg UInt8.toNat hx
      have e : UInt8.ofNat (48 + n) = UInt8.ofNat (48 + n % 10) := by rw [Nat.mod_eq_of_lt h]
      rw [e, dig_toNat] at h2
      omega
    · rw [dec_step n h, List.mem_append, List.mem_singleton] at hx
      rcases hx with hx | hx
      · exact ih (n / 10) (by omega) _ hx
      · have h2 := congrArg UInt8.toNat hx
        rw [dig_toNat] at h2
        omega
theorem dec_ne (n : Nat) : ∃ c r, Lib.decDigits n = c :: r := by
  cases e : Lib.decDigits n with
  | nil =>
    by_cases h : n < 10
    · rw [Lib.decDigits_one h] at e; cases e
    · rw [dec_step n h] at e; simp at e
  | cons c r => exact ⟨c, r, rfl⟩
theorem pub_ok (n : Nat) (hn : n ≤ 9007199254740992) : Lib.parseUintB 64 (Lib.decDigits n) = .ok n := by
  obtain ⟨c, r, e⟩ := dec_ne n
  unfold Lib.parseUintB
  rw [if_neg (by rw [e]; simp)]
  have := pum (2 ^ 64 - 1) 9007199254740992 (by decide) (by decide) (Lib.decDigits n) 0 [] (dec_dig n) (by rw [dvF_dec]; exact hn)
  rw [List.append_nil, dvF_dec] at this
  rw [this]; rfl
theorem pub_dot (n : Nat) (hn : n ≤ 9007199254740992) (t : List UInt8) : Lib.parseUintB 64 (Lib.decDigits n ++ 46 :: t) = .«syntax» := by
  obtain ⟨c, r, e⟩ := dec_ne n
  unfold Lib.parseUintB
  rw [if_neg (by rw [e]; simp)]
  have := pum (2 ^ 64 - 1) 9007199254740992 (by decide) (by decide) (Lib.decDigits n) 0 (46 :: t) (dec_dig n) (by rw [dvF_dec]; exact hn)
  rw [dvF_dec] at this
  rw [this, Lib.parseUintM, if_neg (by decide)]
/-- A whole number's text. -/
def intText (m : Bool) (n : Nat) : List UInt8 := if m = true ∧ 0 < n then 45 :: Lib.decDigits n else Lib.decDigits n
theorem int_ok (m : Bool) (n : Nat) (hn : n ≤ 9007199254740992) : ∃ v, Lib.parseIntB 64 (intText m n) = .ok v := by
  unfold intText
  split
  · rw [Lib.parseIntB_minus, pub_ok n hn]
    exact ⟨-(n : Int), by unfold Lib.signedC; simp only; rw [if_neg (by omega)]⟩
  · obtain ⟨c, r, e⟩ := dec_ne n
    have hc := dec_dig n c (by rw [e]; exact List.mem_cons_self)
    rw [e, Lib.parseIntB_plain _ _ _ (by omega) (by omega), ← e, pub_ok n hn]
    exact ⟨(n : Int), by unfold Lib.signlessC; simp only; rw [if_neg (by omega)]⟩
theorem int_dot (m : Bool) (n : Nat) (hn : n ≤ 9007199254740992) (t : List UInt8) : Lib.parseIntB 64 (intText m n ++ 46 :: t) = .«syntax» := by
  unfold intText
  split
  · rw [List.cons_append, Lib.parseIntB_minus, pub_dot n hn]; rfl
  · obtain ⟨c, r, e⟩ := dec_ne n
    have hc := dec_dig n c (by rw [e]; exact List.mem_cons_self)
    have h := pub_dot n hn t
    rw [e, List.cons_append] at h ⊢
    rw [Lib.parseIntB_plain _ _ _ (by omega) (by omega), h]; rfl
theorem intText_len (m : Bool) (n : Nat) (hn : n ≤ 9007199254740992) : (intText m n).length ≤ 50 := by
  have h : (Lib.decDigits n).length ≤ 40 := by rw [← Lib.itoa_nonneg]; exact Nat.le_trans (Lib.itoa_length_le n (by omega) (by omega)) (by decide)
  unfold intText
  split <;> simp <;> omega
end Go.Proofs.YtngifhngangpeaaGreatDoor
