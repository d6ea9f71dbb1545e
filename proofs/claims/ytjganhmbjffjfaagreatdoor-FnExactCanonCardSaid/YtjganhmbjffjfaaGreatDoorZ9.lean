/- A tree with its objects' members in another order has the same canonical text: plain. An order of indices that is made by insertion: plain (for FnCanonParts). -/
import Derived.Test.YtjganhmbjffjfaaGreatDoorY6
open Go Go.RowKit Go.Maps
namespace Go.Proofs.YtjganhmbjffjfaaGreatDoor
/-- The elements that σ names. -/
def pickS {α : Type} (K : List α) (σ : List Nat) : List α := σ.filterMap (K[·]?)
theorem pick_range {α : Type} (K : List α) : ∀ n, pickS K (List.range n) = K.take n
  | 0 => rfl
  | n + 1 => by
    have h := pick_range K n
    unfold pickS at h ⊢
    rw [List.range_succ, List.filterMap_append, h, List.take_add_one]
    cases e : K[n]? <;> simp [e]
theorem pick_perm {α : Type} {K : List α} {σ : List Nat} (h : σ.Perm (List.range K.length)) : (pickS K σ).Perm K := by
  have h1 : (pickS K σ).Perm (pickS K (List.range K.length)) := h.filterMap _
  rw [pick_range, List.take_length] at h1
  exact h1
theorem pick_get {α : Type} {K : List α} : ∀ (σ : List Nat), (∀ i ∈ σ, i < K.length) → ∀ j : Nat, (pickS K σ)[j]? = σ[j]?.bind (K[·]?)
  | [], _, j => by simp [pickS]
  | i :: σ, h, j => by
    have h1 := pick_get σ fun k hk => h k (List.mem_cons_of_mem _ hk)
    have e : K[i]? = some (K[i]'(h i List.mem_cons_self)) := List.getElem?_eq_getElem _
    have e2 : pickS K (i :: σ) = K[i]'(h i List.mem_cons_self) :: pickS K σ := by unfold pickS; rw [List.filterMap_cons, e]
    rw [e2]
    cases j with
    | zero => rw [List.getElem?_cons_zero, List.getElem?_cons_zero, Option.bind_some, e]
    | succ j => rw [List.getElem?_cons_succ, List.getElem?_cons_succ]; exact h1 j
theorem pick_len {α : Type} {K : List α} : ∀ (σ : List Nat), (∀ i ∈ σ, i < K.length) → (pickS K σ).length = σ.length
  | [], _ => rfl
  | i :: σ, h => by
    have h1 := pick_len σ fun k hk => h k (List.mem_cons_of_mem _ hk)
    have e : K[i]? = some (K[i]'(h i List.mem_cons_self)) := List.getElem?_eq_getElem _
    have e2 : pickS K (i :: σ) = K[i]'(h i List.mem_cons_self) :: pickS K σ := by unfold pickS; rw [List.filterMap_cons, e]
    rw [e2, List.length_cons, List.length_cons, h1]
theorem pick_zip {α β : Type} {A : List α} {L : List β} (hl : A.length = L.length) : ∀ (σ : List Nat), (∀ i ∈ σ, i < A.length) → (pickS A σ).zip (pickS L σ) = pickS (A.zip L) σ
  | [], _ => rfl
  | i :: σ, h => by
    have h1 := pick_zip hl σ fun k hk => h k (List.mem_cons_of_mem _ hk)
    have hi := h i List.mem_cons_self
    have hi2 : i < L.length := by omega
    have hi3 : i < (A.zip L).length := by rw [List.length_zip]; omega
    have ea : A[i]? = some A[i] := List.getElem?_eq_getElem hi
    have el : L[i]? = some L[i] := List.getElem?_eq_getElem hi2
    have ez : (A.zip L)[i]? = some (A[i], L[i]) := by rw [List.getElem?_zip_eq_some]; exact ⟨ea, el⟩
    have e1 : pickS A (i :: σ) = A[i] :: pickS A σ := by unfold pickS; rw [List.filterMap_cons, ea]
    have e2 : pickS L (i :: σ) = L[i] :: pickS L σ := by unfold pickS; rw [List.filterMap_cons, el]
    have e3 : pickS (A.zip L) (i :: σ) = (A[i], L[i]) :: pickS (A.zip L) σ := by unfold pickS; rw [List.filterMap_cons, ez]
    rw [e1, e2, e3, List.zip_cons_cons, h1]
theorem look_hit {K : List (List UInt8 × List UInt8)} (hd : (K.map (·.1)).Nodup) : ∀ p ∈ K, lookT K p.1 = p.2 := by
  induction K with
  | nil => intro p hp; cases hp
  | cons q K ih =>
    intro p hp
    rw [List.map_cons, List.nodup_cons] at hd
    unfold lookT
    rw [List.find?_cons]
    rcases List.mem_cons.1 hp with rfl | hp
    · simp
    · have hne : (q.1 == p.1) = false := by
        simp only [beq_eq_false_iff_ne]
        intro e
        exact hd.1 (by rw [e]; exact List.mem_map_of_mem hp)
      rw [hne]
      exact ih hd.2 p hp
theorem items_perm {K K' : List (List UInt8 × List UInt8)} (h : K'.Perm K) (hd : (K.map (·.1)).Nodup) : itemsT K' = itemsT K := by
  have hm : (K'.map (·.1)).Perm (K.map (·.1)) := h.map _
  have hd' : (K'.map (·.1)).Nodup := hm.nodup_iff.2 hd
  unfold itemsT
  rw [mergeSort_of_perm hm]
  refine List.map_congr_left fun k hk => ?_
  obtain ⟨p, hp, rfl⟩ := List.mem_map.1 ((List.mergeSort_perm _ _).mem_iff.1 hk)
  rw [look_hit hd p hp, look_hit hd' p (h.mem_iff.2 hp)]
/-- A tree with its objects' members in another order. -/
inductive TurnT : VT → VT → Prop
  | node (t t' : VT) (σ : List Nat) (hk : t'.kind = t.kind) (ht : t'.text = t.text) (hp : σ.Perm (List.range t.list.length)) (hl : t'.list.length = t.list.length) (ho : t.kind ≠ ⟨#[111, 98, 106, 101, 99, 116]⟩ → σ = List.range t.list.length) (hks : t.kind = ⟨#[111, 98, 106, 101, 99, 116]⟩ → t'.keys = pickS t.keys σ)
      (hc : ∀ (j i : Nat) (x y : VT), σ[j]? = some i → t.list[i]? = some x → t'.list[j]? = some y → TurnT x y) : TurnT t t'
theorem can_turn {t : VT} {u : List UInt8} (h : CanT t u) : ∀ t', TurnT t t' → CanT t' u := by
  induction h with
  | null t hk => intro t' h; cases h with | node _ _ σ h1 => exact .null t' (h1.trans hk)
  | bool t β hk ht => intro t' h; cases h with | node _ _ σ h1 h2 => exact .bool t' β (h1.trans hk) (h2.trans ht)
  | num t v hk hs hv =>
    intro t' h
    cases h with
    | node _ _ σ h1 h2 =>
      rw [← h2] at hs hv ⊢
      exact .num t' v (h1.trans hk) hs hv
  | str t hk hs =>
    intro t' h
    cases h with
    | node _ _ σ h1 h2 =>
      rw [← h2] at hs ⊢
      exact .str t' (h1.trans hk) hs
  | list t L hk hl hn hv ih =>
    intro t' h
    cases h with
    | node _ _ σ h1 h2 hp hl' ho hks hc =>
      have hσ := ho (by rw [hk]; decide)
      refine .list t' L (h1.trans hk) (by omega) hn fun j y u hy hu => ?_
      have hj : j < t.list.length := by have := (List.getElem?_eq_some_iff.1 hy).1; omega
      obtain ⟨x, hx⟩ : ∃ x, t.list[j]? = some x := ⟨_, List.getElem?_eq_getElem hj⟩
      exact ih j x u hx hu y (hc j j x y (by rw [hσ, List.getElem?_range hj]) hx hy)
  | obj t L hk hl hn hkl hd hks hv ih =>
    intro t' h
    cases h with
    | node _ _ σ h1 h2 hp hl' ho hks' hc =>
      have hkeys := hks' hk
      have hb : ∀ i ∈ σ, i < t.list.length := fun i hi => List.mem_range.1 (hp.mem_iff.1 hi)
      have hσl : σ.length = t.list.length := by rw [hp.length_eq, List.length_range]
      have hA : (t.keys.map (·.data.toList)).length = t.list.length := by rw [List.length_map, hkl]
      have hmap : t'.keys.map (·.data.toList) = pickS (t.keys.map (·.data.toList)) σ := by
        rw [hkeys]
        unfold pickS
        rw [List.map_filterMap]
        congr 1
        funext i
        rw [List.getElem?_map]
      have hz : (pickS (t.keys.map (·.data.toList)) σ).zip (pickS L σ) = pickS ((t.keys.map (·.data.toList)).zip L) σ := pick_zip (by omega) σ (by rw [hA]; exact hb)
      have hzl : ((t.keys.map (·.data.toList)).zip L).length = t.list.length := by rw [List.length_zip]; omega
      have hperm : ((t'.keys.map (·.data.toList)).zip (pickS L σ)).Perm ((t.keys.map (·.data.toList)).zip L) := by
        rw [hmap, hz]
        exact pick_perm (by rw [hzl]; exact hp)
      have hz1 : ((t.keys.map (·.data.toList)).zip L).map (·.1) = t.keys.map (·.data.toList) := List.map_fst_zip (by omega)
      rw [← items_perm hperm (by rw [hz1]; exact hd)]
      have hkp : t'.keys.Perm t.keys := by rw [hkeys]; exact pick_perm (by rw [hkl]; exact hp)
      refine .obj t' (pickS L σ) (h1.trans hk) (by rw [pick_len σ (by rw [hl]; exact hb)]; omega) (by rw [pick_len σ (by rw [hl]; exact hb)]; omega) (by rw [hkp.length_eq]; omega) ((hkp.map _).nodup_iff.2 hd) (fun s hs => hks s (hkp.mem_iff.1 hs)) fun j y u hy hu => ?_
      rw [pick_get σ (by rw [hl]; exact hb)] at hu
      obtain ⟨i, hi, hiu⟩ := Option.bind_eq_some_iff.1 hu
      obtain ⟨x, hx⟩ : ∃ x, t.list[i]? = some x := ⟨_, List.getElem?_eq_getElem (hb i (List.mem_of_getElem? hi))⟩
      exact ih i x u hx hiu y (hc j i x y hi hx hy)
theorem leB_tr {a b c : List UInt8} (h1 : leB a b = true) (h2 : leB b c = true) : leB a c = true := by
  simp only [leB, decide_eq_true_eq] at *
  exact List.le_trans h1 h2
theorem pick_app {α : Type} (K : List α) (a b : List Nat) : pickS K (a ++ b) = pickS K a ++ pickS K b := List.filterMap_append
theorem pick_cons {α : Type} {K : List α} {i : Nat} {x : α} (h : K[i]? = some x) (b : List Nat) : pickS K (i :: b) = x :: pickS K b := by
  unfold pickS
  rw [List.filterMap_cons, h]
theorem pick_map {α β : Type} (K : List α) (f : α → β) (σ : List Nat) : (pickS K σ).map f = pickS (K.map f) σ := by
  unfold pickS
  rw [List.map_filterMap]
  congr 1
  funext i
  rw [List.getElem?_map]
/-- The order along σ. -/
def SortedS (A : List (List UInt8)) (σ : List Nat) : Prop := (pickS A σ).Pairwise fun a b => leB a b = true
/-- A new index at its place. -/
def insAt (σ : List Nat) (p i : Nat) : List Nat := σ.take p ++ i :: σ.drop p
theorem ins_perm {σ : List Nat} {i : Nat} (p : Nat) (h : σ.Perm (List.range i)) : (insAt σ p i).Perm (List.range (i + 1)) := by
  unfold insAt
  rw [List.range_succ]
  have h1 : (σ.take p ++ i :: σ.drop p).Perm (i :: (σ.take p ++ σ.drop p)) := List.perm_middle
  rw [List.take_append_drop] at h1
  exact h1.trans ((h.cons i).trans (List.perm_append_singleton i (List.range i)).symm)
theorem ins_sorted {A : List (List UInt8)} {σ : List Nat} {p i : Nat} {a : List UInt8} (hs : SortedS A σ) (ha : A[i]? = some a) (h1 : ∀ b ∈ pickS A (σ.drop p), leB a b = true)
    (h2 : p = 0 ∨ ∃ (k j : Nat) (b : List UInt8), p = k + 1 ∧ σ[k]? = some j ∧ A[j]? = some b ∧ leB b a = true) : SortedS A (insAt σ p i) := by
  unfold SortedS insAt at *
  rw [pick_app, pick_cons ha]
  have h0 : pickS A σ = pickS A (σ.take p) ++ pickS A (σ.drop p) := by rw [← pick_app, List.take_append_drop]
  rw [h0] at hs
  obtain ⟨q1, q2, q3⟩ := List.pairwise_append.1 hs
  refine List.pairwise_append.2 ⟨q1, List.pairwise_cons.2 ⟨h1, q2⟩, fun x hx y hy => ?_⟩
  have hxa : leB x a = true := by
    rcases h2 with rfl | ⟨k, j, b, rfl, hj, hb, hba⟩
    · rw [List.take_zero] at hx; cases hx
    · rw [List.take_add_one, hj, pick_app] at hx q1
      have e : pickS A (some j).toList = [b] := pick_cons hb []
      rw [e] at hx q1
      rcases List.mem_append.1 hx with hx | hx
      · exact leB_tr ((List.pairwise_append.1 q1).2.2 x hx b List.mem_cons_self) hba
      · rw [List.mem_singleton] at hx; rw [hx]; exact hba
  rcases List.mem_cons.1 hy with rfl | hy
  · exact hxa
  · exact q3 x hx y hy
theorem order_items {A L : List (List UInt8)} (hl : A.length = L.length) (hd : A.Nodup) {σ : List Nat} (hp : σ.Perm (List.range A.length)) (hs : SortedS A σ) : itemsT (A.zip L) = pickS ((A.zip L).map fun p => encStr p.1 ++ 58 :: p.2) σ := by
  have hA : (A.zip L).map (·.1) = A := List.map_fst_zip (by omega)
  have hsort : A.mergeSort leB = pickS A σ := by
    rw [← mergeSort_of_perm (pick_perm hp)]
    exact List.mergeSort_of_pairwise hs
  unfold itemsT
  rw [hA, hsort, ← pick_map]
  have e : pickS A σ = (pickS (A.zip L) σ).map (·.1) := by rw [pick_map, hA]
  rw [e, List.map_map]
  refine List.map_congr_left fun p hp' => ?_
  have hm : p ∈ A.zip L := by
    unfold pickS at hp'
    obtain ⟨i, _, hi⟩ := List.mem_filterMap.1 hp'
    exact List.mem_of_getElem? hi
  simp only [Function.comp]
  rw [look_hit (by rw [hA]; exact hd) p hm]
end Go.Proofs.YtjganhmbjffjfaaGreatDoor
