/- Sums by kind, in plain lists: what two lists of sums answer each other. -/
import Derived.Test.YthafpdceknleiaaGreatDoorT0
namespace Go.Proofs.YthafpdceknleiaaGreatDoor
/-- The last sum of a kind. -/
def lastS (l : List (List UInt8 × List UInt8)) (k : List UInt8) : Option (List UInt8) := (l.reverse.find? (fun p => p.1 == k)).map (·.2)
theorem lastS_nil (k : List UInt8) : lastS [] k = none := rfl
theorem lastS_snoc (l : List (List UInt8 × List UInt8)) (x : List UInt8 × List UInt8) (k : List UInt8) : lastS (l ++ [x]) k = if x.1 = k then some x.2 else lastS l k := by
  unfold lastS
  rw [List.reverse_append, List.reverse_singleton, List.singleton_append, List.find?_cons]
  by_cases h : x.1 = k
  · rw [if_pos h, show (x.1 == k) = true from beq_iff_eq.2 h]; rfl
  · rw [if_neg h, show (x.1 == k) = false from beq_eq_false_iff_ne.2 h]
theorem lastS_mem {l : List (List UInt8 × List UInt8)} (hd : (l.map (·.1)).Nodup) (k x : List UInt8) : lastS l k = some x ↔ (k, x) ∈ l := by
  unfold lastS
  have hd2 : (l.reverse.map (·.1)).Nodup := by rw [List.map_reverse]; unfold List.Nodup at *; rw [List.pairwise_reverse]; exact hd.imp (fun h => fun e => h e.symm)
  rw [← List.mem_reverse]
  generalize l.reverse = r at hd2
  induction r with
  | nil => simp
  | cons y r ih =>
    rw [List.map_cons, List.nodup_cons] at hd2
    rw [List.find?_cons]
    by_cases h : y.1 = k
    · rw [show (y.1 == k) = true from beq_iff_eq.2 h]
      constructor
      · intro e
        have e2 : y.2 = x := by simpa using e
        rw [← h, ← e2]; exact List.mem_cons_self
      · intro hm
        rcases List.mem_cons.1 hm with e | hm
        · rw [← e]; rfl
        · exact absurd (List.mem_map_of_mem (f := (·.1)) hm) (h ▸ hd2.1)
    · rw [show (y.1 == k) = false from beq_eq_false_iff_ne.2 h]
      show Option.map _ (List.find? _ r) = _ ↔ _
      rw [show (Option.map (fun x => x.snd) (List.find? (fun p => p.fst == k) r) = some x ↔ (k, x) ∈ r) from ih hd2.2]
      constructor
      · exact fun hm => List.mem_cons_of_mem _ hm
      · intro hm
        rcases List.mem_cons.1 hm with e | hm
        · exact absurd (by rw [← e]) h
        · exact hm
/-- Two lists of sums are equal: they share a kind, and agree in all that they share. -/
def HEqP (a b : List (List UInt8 × List UInt8)) : Prop :=
  (∃ k x y, lastS b k = some x ∧ lastS a k = some y) ∧ ∀ k x y, lastS b k = some x → lastS a k = some y → y = x
theorem heq_sub {l m : List (List UInt8 × List UInt8)} (hl : (l.map (·.1)).Nodup) (hm : (m.map (·.1)).Nodup) (hs : ∀ p ∈ m, p ∈ l) : (HEqP l m ↔ m ≠ []) ∧ (HEqP m l ↔ m ≠ []) := by
  have fn : ∀ k x y, lastS m k = some x → lastS l k = some y → y = x := by
    intro k x y h1 h2
    have h3 := (lastS_mem hl k x).2 (hs _ ((lastS_mem hm k x).1 h1))
    rw [h2] at h3; exact Option.some.inj h3
  have ex : m ≠ [] ↔ ∃ k x y, lastS m k = some x ∧ lastS l k = some y := by
    constructor
    · intro h
      match m, h with
      | p :: r, _ =>
        have hp : (p.1, p.2) ∈ p :: r := List.mem_cons_self
        exact ⟨p.1, p.2, p.2, (lastS_mem hm _ _).2 hp, (lastS_mem hl _ _).2 (hs _ hp)⟩
    · rintro ⟨k, x, y, h1, _⟩ rfl
      cases h1
  constructor
  · exact ⟨fun h => ex.2 h.1, fun h => ⟨ex.1 h, fn⟩⟩
  · constructor
    · rintro ⟨⟨k, x, y, h1, h2⟩, _⟩
      exact ex.2 ⟨k, y, x, h2, h1⟩
    · intro h
      obtain ⟨k, x, y, h1, h2⟩ := ex.1 h
      exact ⟨⟨k, y, x, h2, h1⟩, fun k x y h1 h2 => (fn k y x h2 h1).symm⟩
theorem heq_turned {l : List (List UInt8 × List UInt8)} (hl : (l.map (·.1)).Nodup) {j : Nat} {k s : List UInt8} (hj : l[j]? = some (k, s)) (t : UInt8) : ¬ HEqP l (l.set j (k, s ++ [t])) ∧ ¬ HEqP (l.set j (k, s ++ [t])) l := by
  have hlt : j < l.length := (List.getElem?_eq_some_iff.1 hj).1
  have hk2 : (l.set j (k, s ++ [t])).map (·.1) = l.map (·.1) := by
    apply List.ext_getElem?
    intro i
    rw [List.getElem?_map, List.getElem?_map, List.getElem?_set]
    by_cases h : j = i
    · subst h; rw [if_pos rfl, if_pos hlt, hj]; rfl
    · rw [if_neg h]
  have hl2 : ((l.set j (k, s ++ [t])).map (·.1)).Nodup := hk2 ▸ hl
  have h1 : lastS l k = some s := (lastS_mem hl k s).2 (List.mem_of_getElem? hj)
  have h2 : lastS (l.set j (k, s ++ [t])) k = some (s ++ [t]) := (lastS_mem hl2 _ _).2 (List.mem_of_getElem? (i := j) (by rw [List.getElem?_set, if_pos rfl, if_pos hlt]))
  have hne : s ≠ s ++ [t] := fun h => by have := congrArg List.length h; simp at this
  exact ⟨fun h => hne (h.2 k _ _ h2 h1), fun h => hne (h.2 k _ _ h1 h2).symm⟩
end Go.Proofs.YthafpdceknleiaaGreatDoor
