/- What a round of the string's reader adds is no longer than what it takes. -/
import Derived.Test.YtngifhngangpeaaGreatDoorP1
open Go Go.RowKit
namespace Go.Proofs.YtngifhngangpeaaGreatDoor
theorem encodeRune_len (r : Int) : (Lib.encodeRune r).length ≤ 4 := by
  have := Lib.runeCells_le r
  rw [Lib.runeCells_length] at this
  exact this.2
theorem encodeRune_len3 {r : Int} (h0 : 0 ≤ r) (h : r < 65536) : (Lib.encodeRune r).length ≤ 3 := by
  unfold Lib.encodeRune Lib.encodeRuneZ
  rw [List.length_map]
  split
  · simp
  split
  · simp
  split
  · simp
  split
  · omega
  · simp
theorem hex4_len {r r' : List UInt8} {n : Nat} (h : hex4 r = some (n, r')) : r.length = r'.length + 4 ∧ n < 65536 := by
  obtain ⟨xs, rfl, hl, _, _, hn⟩ := hex4_some h
  exact ⟨by rw [List.length_append]; omega, hn⟩
theorem multi_len {s bs r : List UInt8} (h : multi s = .go bs r) : bs.length + r.length ≤ s.length ∧ r = s.drop bs.length ∧ bs = s.take bs.length := by
  unfold multi at h
  simp only at h
  split at h
  · cases h
  · injection h with h1 h2
    have hl : bs.length ≤ s.length := by rw [← h1, List.length_take]; omega
    refine ⟨by rw [← h1, ← h2, List.length_take, List.length_drop]; omega, ?_, ?_⟩
    · rw [← h2, ← h1, List.length_take]
      rcases Nat.le_total (Lib.decodeGo ⟨s.toArray⟩).2 s.length with h | h
      · rw [Nat.min_eq_left h]
      · rw [Nat.min_eq_right h, List.drop_eq_nil_of_le h, List.drop_length]
    · rw [← h1, List.length_take]
      rcases Nat.le_total (Lib.decodeGo ⟨s.toArray⟩).2 s.length with h | h
      · rw [Nat.min_eq_left h]
      · rw [Nat.min_eq_right h, List.take_of_length_le h, List.take_length]
theorem pStep_len {s bs r : List UInt8} (h : pStep s = .go bs r) : bs.length + r.length ≤ s.length := by
  match s, h with
  | x :: s, h =>
    rw [pStep_cons] at h
    split at h
    · cases h
    split at h
    · cases h
    split at h
    · match s, h with
      | y :: s, h =>
        rw [esc_cons] at h
        split at h
        · unfold uni at h
          split at h
          · rename_i n r3 hx
            have hl := hex4_len hx
            split at h
            · unfold pair at h
              split at h
              · cases h
              split at h
              · split at h
                · split at h
                  · rename_i m r5 hx2
                    have hl2 := hex4_len hx2
                    split at h
                    · injection h with h1 h2
                      subst h1 h2
                      have := encodeRune_len ((n - 55296 : Int) * 1024 + (m - 56320) + 65536)
                      simp at *; omega
                    · cases h
                  · cases h
                · cases h
              · cases h
            · injection h with h1 h2
              subst h1 h2
              have := encodeRune_len (n : Int)
              simp at *; omega
          · cases h
        split at h
        · injection h with h1 h2; subst h1 h2; simp; omega
        split at h
        · injection h with h1 h2; subst h1 h2; simp; omega
        · cases h
    split at h
    · injection h with h1 h2; subst h1 h2; simp; omega
    · exact (multi_len h).1
/-- Go's decoder takes at least one byte, and no more than there are. -/
theorem decode_width (s : ByteArray) (h : 0 < s.size) : 1 ≤ (Utf8.decode s 0).2 ∧ (Utf8.decode s 0).2 ≤ s.size := by
  unfold Utf8.decode
  simp only
  split
  · exact ⟨Nat.le_refl _, h⟩
  split
  · rename_i h2
    simp only [Bool.and_eq_true, decide_eq_true_eq] at h2
    split
    · simp only; omega
    · exact ⟨Nat.le_refl _, h⟩
  split
  · rename_i h2
    simp only [Bool.and_eq_true, decide_eq_true_eq] at h2
    split
    · simp only; omega
    · exact ⟨Nat.le_refl _, h⟩
  split
  · rename_i h2
    simp only [Bool.and_eq_true, decide_eq_true_eq] at h2
    split
    · simp only; omega
    · exact ⟨Nat.le_refl _, h⟩
  · exact ⟨Nat.le_refl _, h⟩
theorem decodeGo_pos (s : List UInt8) (h : s ≠ []) : 1 ≤ (Lib.decodeGo ⟨s.toArray⟩).2 ∧ (Lib.decodeGo ⟨s.toArray⟩).2 ≤ s.length := by
  have hl : 0 < s.length := by cases s with | nil => exact absurd rfl h | cons _ _ => simp
  have hs : (⟨s.toArray⟩ : ByteArray).size = s.length := by simp [ByteArray.size]
  unfold Lib.decodeGo
  rw [if_neg (by omega), ← hs]
  exact decode_width _ (by omega)
theorem multi_lt {x : UInt8} {s bs r : List UInt8} (h : multi (x :: s) = .go bs r) : r.length < (x :: s).length := by
  have hp := (decodeGo_pos (x :: s) (by simp)).1
  unfold multi at h
  simp only at h
  split at h
  · cases h
  · injection h with h1 h2
    rw [← h2, List.length_drop]
    simp only [List.length_cons] at *
    omega
theorem pStep_lt {s bs r : List UInt8} (h : pStep s = .go bs r) : r.length < s.length := by
  match s, h with
  | x :: s, h =>
    rw [pStep_cons] at h
    split at h
    · cases h
    split at h
    · cases h
    split at h
    · match s, h with
      | y :: s, h =>
        rw [esc_cons] at h
        split at h
        · unfold uni at h
          split at h
          · rename_i n r3 hx
            have hl := hex4_len hx
            split at h
            · unfold pair at h
              split at h
              · cases h
              split at h
              · split at h
                · split at h
                  · rename_i m r5 hx2
                    have hl2 := hex4_len hx2
                    split at h
                    · injection h with h1 h2
                      subst h1 h2
                      have := encodeRune_len ((n - 55296 : Int) * 1024 + (m - 56320) + 65536)
                      simp at *; omega
                    · cases h
                  · cases h
                · cases h
              · cases h
            · injection h with h1 h2
              subst h1 h2
              have := encodeRune_len (n : Int)
              simp at *; omega
          · cases h
        split at h
        · injection h with h1 h2; subst h1 h2; simp; omega
        split at h
        · injection h with h1 h2; subst h1 h2; simp; omega
        · cases h
    split at h
    · injection h with h1 h2; subst h1 h2; simp
    · exact multi_lt h
end Go.Proofs.YtngifhngangpeaaGreatDoor
