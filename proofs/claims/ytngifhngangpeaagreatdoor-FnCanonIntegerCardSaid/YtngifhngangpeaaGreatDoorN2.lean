/- The sorted row of an object's members is one: plain. -/
import Derived.Test.YtngifhngangpeaaGreatDoorN1
open Go Go.RowKit
namespace Go.Proofs.YtngifhngangpeaaGreatDoor
theorem insN_perm (x : NT) : ∀ l : List NT, (insN x l).Perm (x :: l)
  | [] => List.Perm.refl _
  | y :: l => by
    unfold insN
    split
    · exact List.Perm.refl _
    · exact ((insN_perm x l).cons y).trans (List.Perm.swap x y l)
theorem sortN_perm : ∀ l : List NT, (sortN l).Perm l
  | [] => List.Perm.refl _
  | x :: l => (insN_perm x (sortN l)).trans ((sortN_perm l).cons x)
/-- No later one is less than an earlier one. -/
def Asc (l : List NT) : Prop := l.Pairwise fun x y => ¬ cmpK (keyN y) (keyN x) < 0
def SAsc (l : List NT) : Prop := l.Pairwise fun x y => cmpK (keyN x) (keyN y) < 0
theorem cmpK_self (a : List Nat) : cmpK a a = 0 := (cmpK_zero a a).2 rfl
theorem cmpK_le_trans (a b c : List Nat) (h1 : ¬ cmpK b a < 0) (h2 : ¬ cmpK c b < 0) : ¬ cmpK c a < 0 := by
  intro h
  have s1 := cmpK_swap a b
  have s2 := cmpK_swap b c
  by_cases e1 : cmpK a b = 0
  · rw [(cmpK_zero a b).1 e1] at h; exact h2 h
  · have h1' : cmpK a b < 0 := by omega
    have := cmpK_trans c a b h h1'
    exact h2 this
theorem insN_asc (x : NT) : ∀ l : List NT, Asc l → Asc (insN x l)
  | [], _ => List.pairwise_singleton _ _
  | y :: l, h => by
    unfold insN
    obtain ⟨h1, h2⟩ := List.pairwise_cons.1 h
    split
    · rename_i hlt
      refine List.pairwise_cons.2 ⟨fun z hz => ?_, h⟩
      have hxy : ¬ cmpK (keyN y) (keyN x) < 0 := by have := cmpK_swap (keyN x) (keyN y); omega
      rcases List.mem_cons.1 hz with rfl | hz
      · exact hxy
      · exact cmpK_le_trans _ _ _ hxy (h1 z hz)
    · rename_i hlt
      refine List.pairwise_cons.2 ⟨fun z hz => ?_, insN_asc x l h2⟩
      rcases List.mem_cons.1 ((insN_perm x l).mem_iff.1 hz) with rfl | hz
      · exact hlt
      · exact h1 z hz
theorem sortN_asc : ∀ l : List NT, Asc (sortN l)
  | [] => List.Pairwise.nil
  | x :: l => insN_asc x _ (sortN_asc l)
theorem SAsc.of : ∀ (l : List NT), Asc l → dupN l = false → SAsc l
  | [], _, _ => List.Pairwise.nil
  | [x], _, _ => List.pairwise_singleton _ _
  | x :: y :: l, h, hd => by
    obtain ⟨h1, h2⟩ := List.pairwise_cons.1 h
    simp only [dupN, Bool.or_eq_false_iff, decide_eq_false_iff_not] at hd
    have ih := SAsc.of (y :: l) h2 hd.2
    have hxy : cmpK (keyN x) (keyN y) < 0 := by
      have := h1 y (by simp); have s := cmpK_swap (keyN x) (keyN y); have := hd.1; omega
    refine List.pairwise_cons.2 ⟨fun z hz => ?_, ih⟩
    rcases List.mem_cons.1 hz with rfl | hz
    · exact hxy
    · exact cmpK_trans _ _ _ hxy ((List.pairwise_cons.1 ih).1 z hz)
theorem asc_one : ∀ (l1 l2 : List NT), l1.Perm l2 → SAsc l1 → Asc l2 → l1 = l2
  | [], l2, hp, _, _ => (List.Perm.nil_eq hp)
  | x :: l1, [], hp, _, _ => by have := hp.length_eq; simp at this
  | x :: l1, y :: l2, hp, h1, h2 => by
    obtain ⟨a1, a2⟩ := List.pairwise_cons.1 h1
    obtain ⟨b1, b2⟩ := List.pairwise_cons.1 h2
    have hxy : x = y := by
      by_cases e : x = y
      · exact e
      · have hy : y ∈ l1 := by
          rcases List.mem_cons.1 (hp.mem_iff.2 (List.mem_cons_self (a := y) (l := l2))) with h | h
          · exact absurd h.symm e
          · exact h
        have hx : x ∈ l2 := by
          rcases List.mem_cons.1 (hp.mem_iff.1 (List.mem_cons_self (a := x) (l := l1))) with h | h
          · exact absurd h e
          · exact h
        exact absurd (a1 y hy) (b1 x hx)
    subst hxy
    rw [asc_one l1 l2 (List.Perm.cons_inv hp) a2 b2]
/-- Whatever ascending row of the same members: it has a double just if the sorted one has; else it is that one. -/
theorem sorted_row {L M : List NT} (hp : M.Perm L) (ha : Asc M) : dupN M = dupN (sortN L) ∧ (dupN M = false → M = sortN L) := by
  have hp2 : M.Perm (sortN L) := hp.trans (sortN_perm L).symm
  have key1 : dupN M = false → M = sortN L := fun h => asc_one _ _ hp2 (SAsc.of _ ha h) (sortN_asc L)
  have key2 : dupN (sortN L) = false → M = sortN L := fun h => (asc_one _ _ hp2.symm (SAsc.of _ (sortN_asc L) h) ha).symm
  refine ⟨?_, key1⟩
  cases h1 : dupN M with
  | false => rw [← key1 h1, h1]
  | true =>
    cases h2 : dupN (sortN L) with
    | true => rfl
    | false => rw [key2 h2, h2] at h1; cases h1
end Go.Proofs.YtngifhngangpeaaGreatDoor
