/- Patterns and paths of few parts, plain. -/
import Derived.Test.YtpanemfpipcggaaGreatDoorF8
open Go Go.RowKit
namespace Go.Proofs.YtpanemfpipcggaaGreatDoor
theorem bs_append (l m : List UInt8) : bs l ++ bs m = bs (l ++ m) := by
  rw [← bs_of (bs l ++ bs m), ByteArray.data_append, Array.toList_append, bs_data, bs_data]
theorem allB_snoc {a b : List UInt8} : ∀ {l m : List (List UInt8)}, l.length = m.length → allB (l ++ [a]) (m ++ [b]) = (allB l m && matB b a)
  | [], [], _ => by simp [allB]
  | x :: l, y :: m, h => by
    rw [List.cons_append, List.cons_append, allB, allB, allB_snoc (by simpa using h), Bool.and_assoc]
/-- What has been found of the first k parts. -/
def wantB (l m : List (List UInt8)) (k : Nat) : Bool := decide (m.length = l.length) && allB (l.take k) (m.take k)
theorem want_zero (l m : List (List UInt8)) : wantB l m 0 = decide (m.length = l.length) := by simp [wantB, allB]
theorem want_step {l m : List (List UInt8)} {k : Nat} {a b : List UInt8} (ha : l[k]? = some a) (hb : m[k]? = some b) : wantB l m (k + 1) = (wantB l m k && matB b a) := by
  have h1 := (List.getElem?_eq_some_iff.1 ha).1
  have h2 := (List.getElem?_eq_some_iff.1 hb).1
  unfold wantB
  rw [List.take_add_one, List.take_add_one, ha, hb, Bool.and_assoc]
  congr 1
  exact allB_snoc (by rw [List.length_take, List.length_take]; omega)
theorem want_off {l m : List (List UInt8)} (h : m.length ≠ l.length) (k : Nat) : wantB l m k = false := by simp [wantB, h]
theorem want_end {l m : List (List UInt8)} (hl : l ≠ []) (hm : m ≠ []) (hls : ∀ a ∈ l, ∀ x ∈ a, x ≠ 47) (hms : ∀ a ∈ m, ∀ x ∈ a, x ≠ 47) : tipB (joinS l) (joinS m) = wantB l m l.length := by
  unfold tipB wantB
  rw [split_join hl hls, split_join hm hms]
  by_cases h : l.length = m.length
  · rw [List.take_of_length_le (Nat.le_refl _), List.take_of_length_le (by omega)]
    simp [h]
  · rw [decide_eq_false h, decide_eq_false (fun e => h e.symm)]; rfl
/-- The text of the first k parts, as it grows. -/
theorem join_take {l : List (List UInt8)} {k : Nat} {a : List UInt8} (h : l[k]? = some a) : joinS (l.take (k + 1)) = (if k = 0 then [] else joinS (l.take k) ++ [47]) ++ a := by
  have h1 := (List.getElem?_eq_some_iff.1 h).1
  rw [List.take_add_one, h]
  cases k with
  | zero => rfl
  | succ k =>
    rw [if_neg (Nat.succ_ne_zero k)]
    show joinS (l.take (k + 1) ++ [a]) = _
    rw [joinS_snoc a (by intro e; have e2 := congrArg List.length e; rw [List.length_take, List.length_nil] at e2; omega)]
    simp
theorem join_len : ∀ (l : List (List UInt8)) (n : Nat), (∀ a ∈ l, a.length ≤ n) → (joinS l).length ≤ l.length * (n + 1)
  | [], n, _ => by simp [joinS]
  | [a], n, h => by have := h a List.mem_cons_self; simp [joinS]; omega
  | a :: b :: l, n, h => by
    have h1 := h a List.mem_cons_self
    have h2 := join_len (b :: l) n fun c hc => h c (List.mem_cons_of_mem _ hc)
    rw [joinS, List.length_append, List.length_cons, List.length_cons (a := a), Nat.succ_mul]
    omega
theorem join_mem : ∀ (l : List (List UInt8)), ∀ x ∈ joinS l, x = 47 ∨ ∃ a ∈ l, x ∈ a
  | [], x, h => by cases h
  | [a], x, h => .inr ⟨a, List.mem_cons_self, h⟩
  | a :: b :: l, x, h => by
    rw [joinS] at h
    rcases List.mem_append.1 h with h | h
    · exact .inr ⟨a, List.mem_cons_self, h⟩
    · rcases List.mem_cons.1 h with rfl | h
      · exact .inl rfl
      · rcases join_mem (b :: l) x h with h | ⟨c, hc, h⟩
        · exact .inl h
        · exact .inr ⟨c, List.mem_cons_of_mem _ hc, h⟩
end Go.Proofs.YtpanemfpipcggaaGreatDoor
