/- The string of a text of JSON, as the reader reads it: a plain function. What a round of the string's reader adds is no longer than what it takes. The text of a string as decorateString writes it: a plain function. -/
import Derived.Test.YtjganhmbjffjfaaGreatDoorJ4
import Derived.Lib.RuneBytes
import Derived.Shelf.Unicode.DecodeSlow
open Go Go.RowKit
namespace Go.Proofs.YtjganhmbjffjfaaGreatDoor

/-- The sign that an escape of one letter tells. -/
def escB (y : UInt8) : Option UInt8 :=
  if y = 92 then some 92 else if y = 34 then some 34 else if y = 98 then some 8 else if y = 102 then some 12
  else if y = 110 then some 10 else if y = 114 then some 13 else if y = 116 then some 9 else none
/-- Four hexadecimal digits. -/
def hex4 : List UInt8 → Option (Nat × List UInt8)
  | a :: b :: c :: d :: r => (hexN 0 [a, b, c, d]).map fun n => (n, r)
  | _ => none
/-- What a round reads: an error, the end, or some bytes. -/
inductive Step where
  | err
  | fin (r : List UInt8)
  | go (bs r : List UInt8)
def surr (n : Nat) : Bool := 55296 ≤ n && n ≤ 57343
def pair (n : Nat) (r : List UInt8) : Step :=
  if 56319 < n then .err else
  match r with
  | a :: b :: r4 => if a = 92 ∧ b = 117 then
      match hex4 r4 with
      | some (m, r5) => if 56320 ≤ m ∧ m ≤ 57343 then .go (Lib.encodeRune ((n - 55296 : Int) * 1024 + (m - 56320) + 65536)) r5 else .err
      | none => .err
    else .err
  | _ => .err
def uni (r : List UInt8) : Step :=
  match hex4 r with
  | some (n, r3) => if surr n = true then pair n r3 else .go (Lib.encodeRune n) r3
  | none => .err
def esc (r : List UInt8) : Step :=
  match r with
  | [] => .err
  | y :: r2 => if y = 117 then uni r2 else if y = 47 then .go [47] r2 else
    match escB y with
    | some z => .go [z] r2
    | none => .err
def multi (s : List UInt8) : Step :=
  let p := Lib.decodeGo ⟨s.toArray⟩
  if p.1 = 65533 ∧ p.2 ≤ 1 then .err else .go (s.take p.2) (s.drop p.2)
def pStep : List UInt8 → Step
  | [] => .err
  | x :: r => if x = 34 then .fin r else if x.toNat < 32 then .err else if x = 92 then esc r else if x.toNat < 128 then .go [x] r else multi (x :: r)
/-- A string behind its quotation mark: its bytes, and what is left. -/
def pStr : Nat → List UInt8 → List UInt8 → Option (List UInt8 × List UInt8)
  | 0, _, _ => none
  | k + 1, acc, s => match pStep s with
    | .err => none
    | .fin r => some (acc, r)
    | .go bs r => pStr k (acc ++ bs) r

theorem pStep_cons (x : UInt8) (r : List UInt8) : pStep (x :: r) = if x = 34 then .fin r else if x.toNat < 32 then .err else if x = 92 then esc r else if x.toNat < 128 then .go [x] r else multi (x :: r) := rfl
theorem esc_cons (y : UInt8) (r2 : List UInt8) : esc (y :: r2) = if y = 117 then uni r2 else if y = 47 then .go [47] r2 else match escB y with | some z => .go [z] r2 | none => .err := rfl
theorem hexN_ascii : ∀ (l : List UInt8) (acc n : Nat), hexN acc l = some n → ∀ x ∈ l, x.toNat ≤ 127 := by
  intro l
  induction l with
  | nil => intro acc n _ x hx; cases hx
  | cons y l ih =>
    intro acc n h x hx
    unfold hexN at h
    cases hd : hexD y with
    | none => rw [hd] at h; cases h
    | some v =>
      rw [hd] at h
      rcases List.mem_cons.1 hx with rfl | hx
      · have key : ∀ m : Fin 256, ¬ m.val ≤ 127 → ¬ (48 ≤ m.val ∧ m.val ≤ 57) ∧ ¬ (97 ≤ bits .or .u8 ((m.val : Nat) : Int) 32 ∧ bits .or .u8 ((m.val : Nat) : Int) 32 ≤ 102) := by decide +kernel
        by_cases hx : x.toNat ≤ 127
        · exact hx
        · have := key ⟨x.toNat, x.toNat_lt⟩ hx
          unfold hexD lowI at hd
          rw [if_neg this.1, if_neg this.2] at hd; cases hd
      · exact ih _ _ h x hx
theorem hexD_lt {y : UInt8} {v : Nat} (h : hexD y = some v) : v < 16 := by
  unfold hexD at h
  split at h
  · cases h; omega
  split at h
  · cases h; omega
  · cases h
theorem hex4_some {r r' : List UInt8} {n : Nat} (h : hex4 r = some (n, r')) : ∃ xs, r = xs ++ r' ∧ xs.length = 4 ∧ (∀ x ∈ xs, x.toNat ≤ 127) ∧ hexN 0 xs = some n ∧ n < 65536 := by
  match r, h with
  | a :: b :: c :: d :: r, h =>
    simp only [hex4, Option.map_eq_some_iff, Prod.mk.injEq] at h
    obtain ⟨m, hm, rfl, rfl⟩ := h
    refine ⟨[a, b, c, d], rfl, rfl, hexN_ascii _ _ _ hm, hm, ?_⟩
    simp only [hexN] at hm
    cases ha : hexD a with
    | none => rw [ha] at hm; cases hm
    | some va =>
      cases hb : hexD b with
      | none => rw [ha] at hm; simp only [hb] at hm; cases hm
      | some vb =>
        cases hc : hexD c with
        | none => rw [ha] at hm; simp only [hb, hc] at hm; cases hm
        | some vc =>
          cases hd : hexD d with
          | none => rw [ha] at hm; simp only [hb, hc, hd] at hm; cases hm
          | some vd =>
            rw [ha] at hm; simp only [hb, hc, hd] at hm
            have := hexD_lt ha; have := hexD_lt hb; have := hexD_lt hc; have := hexD_lt hd
            cases hm; omega
theorem hex4_none {r : List UInt8} (h : hex4 r = none) : ∀ xs r', r = xs ++ r' → xs.length = 4 → (∀ x ∈ xs, x.toNat ≤ 127) → hexN 0 xs = none := by
  intro xs r' he hl _
  match xs, hl with
  | [a, b, c, d], _ =>
    subst he
    simpa [hex4] using h
theorem encodeRune_len (r : Int) : (Lib.encodeRune r).length ≤ 4 := by
  have := Lib.runeCells_le r
  rw [Lib.runeCells_length] at this
  exact this.2
theorem encodeRune_len3 {r : Int} (h0 : 0 ≤ r) (h : r < 65536) : (Lib.encodeRune r).length ≤ 3 := by
  unfold Lib.encodeRune Lib.encodeRuneZ
  rw [List.length_map]
  split
  · simp
  split
  · simp
  split
  · simp
  split
  · omega
  · simp
theorem hex4_len {r r' : List UInt8} {n : Nat} (h : hex4 r = some (n, r')) : r.length = r'.length + 4 ∧ n < 65536 := by
  obtain ⟨xs, rfl, hl, _, _, hn⟩ := hex4_some h
  exact ⟨by rw [List.length_append]; omega, hn⟩
theorem multi_len {s bs r : List UInt8} (h : multi s = .go bs r) : bs.length + r.length ≤ s.length ∧ r = s.drop bs.length ∧ bs = s.take bs.length := by
  unfold multi at h
  simp only at h
  split at h
  · cases h
  · injection h with h1 h2
    have hl : bs.length ≤ s.length := by rw [← h1, List.length_take]; omega
    refine ⟨by rw [← h1, ← h2, List.length_take, List.length_drop]; omega, ?_, ?_⟩
    · rw [← h2, ← h1, List.length_take]
      rcases Nat.le_total (Lib.decodeGo ⟨s.toArray⟩).2 s.length with h | h
      · rw [Nat.min_eq_left h]
      · rw [Nat.min_eq_right h, List.drop_eq_nil_of_le h, List.drop_length]
    · rw [← h1, List.length_take]
      rcases Nat.le_total (Lib.decodeGo ⟨s.toArray⟩).2 s.length with h | h
      · rw [Nat.min_eq_left h]
      · rw [Nat.min_eq_right h, List.take_of_length_le h, List.take_length]
theorem pStep_len {s bs r : List UInt8} (h : pStep s = .go bs r) : bs.length + r.length ≤ s.length := by
  match s, h with
  | x :: s, h =>
    rw [pStep_cons] at h
    split at h
    · cases h
    split at h
    · cases h
    split at h
    · match s, h with
      | y :: s, h =>
        rw [esc_cons] at h
        split at h
        · unfold uni at h
          split at h
          · rename_i n r3 hx
            have hl := hex4_len hx
            split at h
            · unfold pair at h
              split at h
              · cases h
              split at h
              · split at h
                · split at h
                  · rename_i m r5 hx2
                    have hl2 := hex4_len hx2
                    split at h
                    · injection h with h1 h2
                      subst h1 h2
                      have := encodeRune_len ((n - 55296 : Int) * 1024 + (m - 56320) + 65536)
                      simp at *; omega
                    · cases h
                  · cases h
                · cases h
              · cases h
            · injection h with h1 h2
              subst h1 h2
              have := encodeRune_len (n : Int)
              simp at *; omega
          · cases h
        split at h
        · injection h with h1 h2; subst h1 h2; simp; omega
        split at h
        · injection h with h1 h2; subst h1 h2; simp; omega
        · cases h
    split at h
    · injection h with h1 h2; subst h1 h2; simp; omega
    · exact (multi_len h).1
/-- Go's decoder takes at least one byte, and no more than there are. -/
theorem decode_width (s : ByteArray) (h : 0 < s.size) : 1 ≤ (Utf8.decode s 0).2 ∧ (Utf8.decode s 0).2 ≤ s.size := by
  unfold Utf8.decode
  simp only
  split
  · exact ⟨Nat.le_refl _, h⟩
  split
  · rename_i h2
    simp only [Bool.and_eq_true, decide_eq_true_eq] at h2
    split
    · simp only; omega
    · exact ⟨Nat.le_refl _, h⟩
  split
  · rename_i h2
    simp only [Bool.and_eq_true, decide_eq_true_eq] at h2
    split
    · simp only; omega
    · exact ⟨Nat.le_refl _, h⟩
  split
  · rename_i h2
    simp only [Bool.and_eq_true, decide_eq_true_eq] at h2
    split
    · simp only; omega
    · exact ⟨Nat.le_refl _, h⟩
  · exact ⟨Nat.le_refl _, h⟩
theorem decodeGo_pos (s : List UInt8) (h : s ≠ []) : 1 ≤ (Lib.decodeGo ⟨s.toArray⟩).2 ∧ (Lib.decodeGo ⟨s.toArray⟩).2 ≤ s.length := by
  have hl : 0 < s.length := by cases s with | nil => exact absurd rfl h | cons _ _ => simp
  have hs : (⟨s.toArray⟩ : ByteArray).size = s.length := by simp [ByteArray.size]
  unfold Lib.decodeGo
  rw [if_neg (by omega), ← hs]
  exact decode_width _ (by omega)
theorem multi_lt {x : UInt8} {s bs r : List UInt8} (h : multi (x :: s) = .go bs r) : r.length < (x :: s).length := by
  have hp := (decodeGo_pos (x :: s) (by simp)).1
  unfold multi at h
  simp only at h
  split at h
  · cases h
  · injection h with h1 h2
    rw [← h2, List.length_drop]
    simp only [List.length_cons] at *
    omega
theorem pStep_lt {s bs r : List UInt8} (h : pStep s = .go bs r) : r.length < s.length := by
  match s, h with
  | x :: s, h =>
    rw [pStep_cons] at h
    split at h
    · cases h
    split at h
    · cases h
    split at h
    · match s, h with
      | y :: s, h =>
        rw [esc_cons] at h
        split at h
        · unfold uni at h
          split at h
          · rename_i n r3 hx
            have hl := hex4_len hx
            split at h
            · unfold pair at h
              split at h
              · cases h
              split at h
              · split at h
                · split at h
                  · rename_i m r5 hx2
                    have hl2 := hex4_len hx2
                    split at h
                    · injection h with h1 h2
                      subst h1 h2
                      have := encodeRune_len ((n - 55296 : Int) * 1024 + (m - 56320) + 65536)
                      simp at *; omega
                    · cases h
                  · cases h
                · cases h
              · cases h
            · injection h with h1 h2
              subst h1 h2
              have := encodeRune_len (n : Int)
              simp at *; omega
          · cases h
        split at h
        · injection h with h1 h2; subst h1 h2; simp; omega
        split at h
        · injection h with h1 h2; subst h1 h2; simp; omega
        · cases h
    split at h
    · injection h with h1 h2; subst h1 h2; simp
    · exact multi_lt h
def hexB (n : Nat) : UInt8 := if n < 10 then UInt8.ofNat (48 + n) else UInt8.ofNat (87 + n)
/-- The letter of an escape of one letter. -/
def binE (c : UInt8) : Option UInt8 :=
  if c = 92 then some 92 else if c = 34 then some 34 else if c = 8 then some 98 else if c = 12 then some 102
  else if c = 10 then some 110 else if c = 13 then some 114 else if c = 9 then some 116 else none
def decB (c : UInt8) : List UInt8 :=
  match binE c with
  | some z => [92, z]
  | none => if c.toNat < 32 then [92, 117, 48, 48, hexB (c.toNat / 16), hexB (c.toNat % 16)] else [c]
def deco (s : List UInt8) : List UInt8 := 34 :: (s.flatMap decB) ++ [34]
theorem decB_len (c : UInt8) : (decB c).length ≤ 6 := by
  unfold decB
  split
  · simp
  · split <;> simp
theorem flat_len (s : List UInt8) : (s.flatMap decB).length ≤ 6 * s.length := by
  induction s with
  | nil => simp
  | cons x s ih => rw [List.flatMap_cons, List.length_append, List.length_cons]; have := decB_len x; omega
end Go.Proofs.YtjganhmbjffjfaaGreatDoor
