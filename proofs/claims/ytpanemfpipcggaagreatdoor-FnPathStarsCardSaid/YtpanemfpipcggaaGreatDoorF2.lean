/- The rows of laws.matches, plain: what of a text the head of a pattern covers. -/
import Derived.Test.YtpanemfpipcggaaGreatDoorF1
open Go Go.RowKit
namespace Go.Proofs.YtpanemfpipcggaaGreatDoor
/-- A sign of a pattern at a place of a text. -/
def okPat (c : UInt8) (s : List UInt8) (j : Nat) : Bool := match s[j]? with
  | some x => c == 63 || c == x
  | none => false
/-- The next row. -/
def rowP (c : UInt8) (s : List UInt8) (R : Nat → Bool) (j : Nat) : Bool :=
  if c = 42 then (List.range (j + 1)).any R else match j with
    | 0 => false
    | i + 1 => R i && okPat c s i
/-- The next row as far as place k has come. -/
def nxtP (c : UInt8) (s : List UInt8) (R : Nat → Bool) (k j : Nat) : Bool :=
  if c = 42 then (if j < k then rowP c s R j else false) else (if j ≤ k then rowP c s R j else false)
theorem nxt_zero (c : UInt8) (s : List UInt8) (R : Nat → Bool) (j : Nat) : nxtP c s R 0 j = false := by
  unfold nxtP
  by_cases hc : c = 42
  · rw [if_pos hc, if_neg (by omega)]
  · rw [if_neg hc]
    by_cases hj : j ≤ 0
    · obtain rfl : j = 0 := by omega
      simp [rowP, hc]
    · rw [if_neg hj]
theorem row_star_succ (s : List UInt8) (R : Nat → Bool) (k : Nat) : rowP 42 s R (k + 1) = (rowP 42 s R k || R (k + 1)) := by
  unfold rowP
  rw [if_pos rfl, if_pos rfl, List.range_succ, List.any_append]
  simp
theorem row_star_zero (s : List UInt8) (R : Nat → Bool) : rowP 42 s R 0 = R 0 := by
  simp [rowP]
/-- Whether a star's row stands at k: what the program looks at. -/
theorem row_star_at (s : List UInt8) (R : Nat → Bool) (k : Nat) : rowP 42 s R k = (R k || (decide (0 < k) && nxtP 42 s R k (k - 1))) := by
  cases k with
  | zero => simp [row_star_zero]
  | succ k =>
    rw [row_star_succ, Bool.or_comm]
    congr 1
    simp [nxtP]
theorem nxt_star (s : List UInt8) (R : Nat → Bool) (k j : Nat) : nxtP 42 s R (k + 1) j = if j = k then rowP 42 s R k else nxtP 42 s R k j := by
  unfold nxtP
  simp only [if_true]
  by_cases h : j = k
  · subst h; rw [if_pos (by omega), if_pos rfl]
  · rw [if_neg h]
    by_cases h2 : j < k
    · rw [if_pos (by omega), if_pos h2]
    · rw [if_neg (by omega), if_neg h2]
theorem nxt_one {c : UInt8} (hc : c ≠ 42) (s : List UInt8) (R : Nat → Bool) (k j : Nat) : nxtP c s R (k + 1) j = if j = k + 1 then (R k && okPat c s k) else nxtP c s R k j := by
  unfold nxtP
  simp only [if_neg hc]
  by_cases h : j = k + 1
  · subst h; rw [if_pos (by omega), if_pos rfl]; simp [rowP, hc]
  · rw [if_neg h]
    by_cases h2 : j ≤ k
    · rw [if_pos (by omega), if_pos h2]
    · rw [if_neg (by omega), if_neg h2]
theorem nxt_end {c : UInt8} {s : List UInt8} {R : Nat → Bool} {n j : Nat} (h : j ≤ n) : nxtP c s R (n + 1) j = rowP c s R j := by
  unfold nxtP
  by_cases hc : c = 42
  · rw [if_pos hc, if_pos (by omega)]
  · rw [if_neg hc, if_pos (by omega)]
/-- The row of the head of a pattern. -/
def headP (p s : List UInt8) (k : Nat) : Bool := matB p (s.take k)
theorem head_nil (s : List UInt8) {k : Nat} (h : k ≤ s.length) : headP [] s k = decide (k = 0) := by
  unfold headP
  rw [Bool.eq_iff_iff, matB_iff, gm_nil, decide_eq_true_eq]
  constructor
  · intro h2
    have := congrArg List.length h2
    rw [List.length_take] at this
    simp at this
    rcases this with h3 | h3
    · exact h3
    · subst h3; simpa using h
  · rintro rfl; rfl
theorem head_step (p s : List UInt8) (c : UInt8) {k : Nat} (h : k ≤ s.length) : headP (p ++ [c]) s k = rowP c s (headP p s) k := by
  rw [Bool.eq_iff_iff]
  unfold headP
  rw [matB_iff, gm_append]
  by_cases hc : c = 42
  · subst hc
    unfold rowP
    rw [if_pos rfl, List.any_eq_true]
    constructor
    · rintro ⟨u, v, e, h1, _⟩
      refine ⟨u.length, ?_, ?_⟩
      · have := congrArg List.length e
        rw [List.length_take, List.length_append] at this
        rw [List.mem_range]; omega
      · rw [matB_iff]
        have hk : u.length ≤ k := by
          have := congrArg List.length e
          rw [List.length_take, List.length_append] at this
          omega
        have : s.take u.length = u := by
          have h2 := congrArg (List.take u.length) e
          rw [List.take_take, Nat.min_eq_left hk, List.take_left] at h2
          exact h2
        rw [this]; exact h1
    · rintro ⟨j, hj, h1⟩
      rw [List.mem_range] at hj
      rw [matB_iff] at h1
      refine ⟨s.take j, (s.take k).drop j, ?_, h1, (gm_star _ _).2 ⟨(s.take k).drop j, [], by simp, (gm_nil _).2 rfl⟩⟩
      have : s.take j = (s.take k).take j := by rw [List.take_take, Nat.min_eq_left (by omega)]
      rw [this, List.take_append_drop]
  · cases k with
    | zero =>
      constructor
      · rintro ⟨u, v, e, h1, h2⟩
        obtain ⟨x, r, rfl, _⟩ := (gm_one hc _ _).1 h2
        simp at e
      · intro h2; simp [rowP, hc] at h2
    | succ k =>
      have hk : k < s.length := by omega
      have e0 : s.take (k + 1) = s.take k ++ [s[k]] := by rw [List.take_add_one, List.getElem?_eq_getElem hk]; rfl
      have e1 : rowP c s (fun k => matB p (List.take k s)) (k + 1) = (matB p (s.take k) && okPat c s k) := by simp [rowP, hc]
      rw [e1, Bool.and_eq_true, matB_iff]
      have e2 : okPat c s k = true ↔ (c = 63 ∨ c = s[k]) := by unfold okPat; rw [List.getElem?_eq_getElem hk]; simp
      rw [e2, e0]
      constructor
      · rintro ⟨u, v, e, h1, h2⟩
        obtain ⟨x, r, rfl, h3, h4⟩ := (gm_one hc _ _).1 h2
        rw [(gm_nil r).1 h4] at e
        obtain ⟨h5, h6⟩ := List.append_inj' e rfl
        cases h6
        rw [h5]; exact ⟨h1, h3⟩
      · rintro ⟨h1, h2⟩
        exact ⟨s.take k, [s[k]], rfl, h1, (gm_one hc _ _).2 ⟨s[k], [], rfl, h2, (gm_nil _).2 rfl⟩⟩
end Go.Proofs.YtpanemfpipcggaaGreatDoor
