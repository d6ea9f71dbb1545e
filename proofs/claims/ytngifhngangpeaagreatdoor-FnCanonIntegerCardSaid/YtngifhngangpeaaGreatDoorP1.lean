/- The string of a text of JSON, as the reader reads it: a plain function. -/
import Derived.Test.YtngifhngangpeaaGreatDoorJ4
import Derived.Lib.RuneBytes
import Derived.Shelf.Unicode.DecodeSlow
open Go Go.RowKit
namespace Go.Proofs.YtngifhngangpeaaGreatDoor

/-- The sign that an escape of one letter tells. -/
def escB (y : UInt8) : Option UInt8 :=
  if y = 92 then some 92 else if y = 34 then some 34 else if y = 98 then some 8 else if y = 102 then some 12
  else if y = 110 then some 10 else if y = 114 then some 13 else if y = 116 then some 9 else none
/-- Four hexadecimal digits. -/
def hex4 : List UInt8 → Option (Nat × List UInt8)
  | a :: b :: c :: d :: r => (hexN 0 [a, b, c, d]).map fun n => (n, r)
  | _ => none
/-- What a round reads: an error, the end, or some bytes. -/
inductive Step where
  | err
  | fin (r : List UInt8)
  | go (bs r : List UInt8)
def surr (n : Nat) : Bool := 55296 ≤ n && n ≤ 57343
def pair (n : Nat) (r : List UInt8) : Step :=
  if 56319 < n then .err else
  match r with
  | a :: b :: r4 => if a = 92 ∧ b = 117 then
      match hex4 r4 with
      | some (m, r5) => if 56320 ≤ m ∧ m ≤ 57343 then .go (Lib.encodeRune ((n - 55296 : Int) * 1024 + (m - 56320) + 65536)) r5 else .err
      | none => .err
    else .err
  | _ => .err
def uni (r : List UInt8) : Step :=
  match hex4 r with
  | some (n, r3) => if surr n = true then pair n r3 else .go (Lib.encodeRune n) r3
  | none => .err
def esc (r : List UInt8) : Step :=
  match r with
  | [] => .err
  | y :: r2 => if y = 117 then uni r2 else if y = 47 then .go [47] r2 else
    match escB y with
    | some z => .go [z] r2
    | none => .err
def multi (s : List UInt8) : Step :=
  let p := Lib.decodeGo ⟨s.toArray⟩
  if p.1 = 65533 ∧ p.2 ≤ 1 then .err else .go (s.take p.2) (s.drop p.2)
def pStep : List UInt8 → Step
  | [] => .err
  | x :: r => if x = 34 then .fin r else if x.toNat < 32 then .err else if x = 92 then esc r else if x.toNat < 128 then .go [x] r else multi (x :: r)
/-- A string behind its quotation mark: its bytes, and what is left. -/
def pStr : Nat → List UInt8 → List UInt8 → Option (List UInt8 × List UInt8)
  | 0, _, _ => none
  | k + 1, acc, s => match pStep s with
    | .err => none
    | .fin r => some (acc, r)
    | .go bs r => pStr k (acc ++ bs) r

theorem pStep_cons (x : UInt8) (r : List UInt8) : pStep (x :: r) = if x = 34 then .fin r else if x.toNat < 32 then .err else if x = 92 then esc r else if x.toNat < 128 then .go [x] r else multi (x :: r) := rfl
theorem esc_cons (y : UInt8) (r2 : List UInt8) : esc (y :: r2) = if y = 117 then uni r2 else if y = 47 then .go [47] r2 else match escB y with | some z => .go [z] r2 | none => .err := rfl
theorem hexN_ascii : ∀ (l : List UInt8) (acc n : Nat), hexN acc l = some n → ∀ x ∈ l, x.toNat ≤ 127 := by
  intro l
  induction l with
  | nil => intro acc n _ x hx; cases hx
  | cons y l ih =>
    intro acc n h x hx
    unfold hexN at h
    cases hd : hexD y with
    | none => rw [hd] at h; cases h
    | some v =>
      rw [hd] at h
      rcases List.mem_cons.1 hx with rfl | hx
      · have key : ∀ m : Fin 256, ¬ m.val ≤ 127 → ¬ (48 ≤ m.val ∧ m.val ≤ 57) ∧ ¬ (97 ≤ bits .or .u8 ((m.val : Nat) : Int) 32 ∧ bits .or .u8 ((m.val : Nat) : Int) 32 ≤ 102) := by decide +kernel
        by_cases hx : x.toNat ≤ 127
        · exact hx
        · have := key ⟨x.toNat, x.toNat_lt⟩ hx
          unfold hexD lowI at hd
          rw [if_neg this.1, if_neg this.2] at hd; cases hd
      · exact ih _ _ h x hx
theorem hexD_lt {y : UInt8} {v : Nat} (h : hexD y = some v) : v < 16 := by
  unfold hexD at h
  split at h
  · cases h; omega
  split at h
  · cases h; omega
  · cases h
theorem hex4_some {r r' : List UInt8} {n : Nat} (h : hex4 r = some (n, r')) : ∃ xs, r = xs ++ r' ∧ xs.length = 4 ∧ (∀ x ∈ xs, x.toNat ≤ 127) ∧ hexN 0 xs = some n ∧ n < 65536 := by
  match r, h with
  | a :: b :: c :: d :: r, h =>
    simp only [hex4, Option.map_eq_some_iff, Prod.mk.injEq] at h
    obtain ⟨m, hm, rfl, rfl⟩ := h
    refine ⟨[a, b, c, d], rfl, rfl, hexN_ascii _ _ _ hm, hm, ?_⟩
    simp only [hexN] at hm
    cases ha : hexD a with
    | none => rw [ha] at hm; cases hm
    | some va =>
      cases hb : hexD b with
      | none => rw [ha] at hm; simp only [hb] at hm; cases hm
      | some vb =>
        cases hc : hexD c with
        | none => rw [ha] at hm; simp only [hb, hc] at hm; cases hm
        | some vc =>
          cases hd : hexD d with
          | none => rw [ha] at hm; simp only [hb, hc, hd] at hm; cases hm
          | some vd =>
            rw [ha] at hm; simp only [hb, hc, hd] at hm
            have := hexD_lt ha; have := hexD_lt hb; have := hexD_lt hc; have := hexD_lt hd
            cases hm; omega
theorem hex4_none {r : List UInt8} (h : hex4 r = none) : ∀ xs r', r = xs ++ r' → xs.length = 4 → (∀ x ∈ xs, x.toNat ≤ 127) → hexN 0 xs = none := by
  intro xs r' he hl _
  match xs, hl with
  | [a, b, c, d], _ =>
    subst he
    simpa [hex4] using h
end Go.Proofs.YtngifhngangpeaaGreatDoor
