/- laws.FnHashesEqual: what stands around the walk. -/
import Derived.Test.YthafpdceknleiaaGreatDoorH3
import Derived.Test.YthafpdceknleiaaGreatDoorU6
open Go Go.RowKit Go.Maps
namespace Go.Proofs.YthafpdceknleiaaGreatDoor
theorem hsR_of {w : World} {v : Value} (h : SL PHash 2 w v) : ∃ l, HsR w v l := by
  rcases h with rfl | ⟨a, n, c, rfl, h1, h2, h3⟩
  · exact ⟨[], .inl ⟨rfl, rfl⟩⟩
  · have hall : ∀ j, ∃ x : ByteArray × List UInt8, j < n → w.cell? (a.add (j * 2)) = some (.string x.1) ∧ x.1.size ≤ 140737488351232 ∧ ∃ ao n cp, w.cell? ⟨(a.add (j * 2)).block, (a.add (j * 2)).off + 1, none⟩ = some (.slice ao n cp) ∧ BSrc w (.slice ao n cp) x.2 := by
      intro j
      by_cases hj : j < n
      · obtain ⟨cs, ⟨s0, a1, l1, c1, rfl, g0, l, g1⟩, hc⟩ := h3 j hj
        exact ⟨(s0, l), fun _ => ⟨hc 0 _ rfl, g0, a1, l1, c1, by rw [← fieldU _ _ 1 (by omega)]; exact hc 1 _ rfl, g1⟩⟩
      · exact ⟨(⟨#[]⟩, []), fun h => absurd h hj⟩
    obtain ⟨F, hF⟩ := Classical.axiomOfChoice hall
    have e : n = ((List.range n).map F).length := by simp
    refine ⟨(List.range n).map F, .inr ⟨a, c, by rw [← e], by rw [← e]; exact h1, h2, fun j x hj => ?_⟩⟩
    rw [List.getElem?_map] at hj
    rcases Nat.lt_or_ge j n with h | h
    · rw [List.getElem?_range h] at hj; cases hj; exact hF j h
    · rw [List.getElem?_eq_none (by simp; exact h)] at hj; cases hj
theorem dis_nodup {l : List (ByteArray × List UInt8)} (h : DisT (l.map (·.1)) (l.map (·.1)).length) : ((toL l).map (·.1)).Nodup := by
  unfold List.Nodup
  rw [List.pairwise_iff_getElem]
  intro i j hi hj hij e
  have hi2 : i < l.length := by simpa [toL] using hi
  have hj2 : j < l.length := by simpa [toL] using hj
  have hx : (l.map (·.1))[j]? = some l[j].1 := by rw [List.getElem?_map, List.getElem?_eq_getElem hj2]; rfl
  have := h j _ (by simpa using hj2) hx
  unfold amB at this
  rw [List.any_eq_false] at this
  refine this l[i].1 (List.mem_of_getElem? (i := i) (by rw [List.getElem?_take_of_lt hij, List.getElem?_map, List.getElem?_eq_getElem hi2]; rfl)) ?_
  simp only [toL, List.getElem_map] at e
  rw [ByteArray.toList_eq, ByteArray.toList_eq, e]
  simp
theorem distinct_own {ids : List ByteArray} {n R : Nat} (hn : ids.length = n) {sa : Option Addr} {sc : Nat} {w : World} (ho : w.ownsRow R 9 1 (.slice sa n sc) n (ids.map .string)) (hl : n ≤ 2147483648) :
    ∃ β : Bool, (β = true ↔ DisT ids ids.length) ∧ Calls Tryz.prog 13 #[.slice sa n sc] w fun e w' => e = .returned (.bool β) ∧ w' = w := by
  subst hn
  have hcap : ids.length ≤ sc ∧ sc ≤ 9223372036854775807 := by
    rcases ho.2 with ⟨h1, h0⟩ | ⟨g, cap, cur, h1, _, _, h2, h3, _⟩
    · injection h1 with _ _ h1; omega
    · injection h1 with _ _ h1; unfold maxLen at h3; omega
  classical
  refine ⟨decide (DisT ids ids.length), decide_eq_true_iff, (distinct_any (cp := sc) (txtR_own ho) hl hcap.1 hcap.2).mono ?_⟩
  rintro e w' ⟨⟨b, rfl, hb⟩, rfl⟩
  exact ⟨by rw [Bool.eq_iff_iff.2 (hb.trans decide_eq_true_iff.symm)], rfl⟩
/-- The cells of sums: kinds, and the slices of bytes. -/
def hsCells (l : List (ByteArray × List UInt8)) (us : List Value) : List Value := (l.zip us).flatMap fun p => [.string p.1.1, p.2]
theorem hsCells_get : ∀ (l : List (ByteArray × List UInt8)) (us : List Value), us.length = l.length → ∀ (j : Nat) (x : ByteArray × List UInt8), l[j]? = some x → ∃ u, us[j]? = some u ∧ (hsCells l us)[j * 2]? = some (.string x.1) ∧ (hsCells l us)[j * 2 + 1]? = some u
  | [], _, _, j, x, h => by cases h
  | y :: l, [], hl, _, _, _ => by cases hl
  | y :: l, u :: us, hl, 0, x, h => by cases h; exact ⟨u, rfl, rfl, rfl⟩
  | y :: l, u :: us, hl, j + 1, x, h => by
    obtain ⟨u', h1, h2, h3⟩ := hsCells_get l us (by simpa using hl) j x h
    refine ⟨u', h1, ?_, ?_⟩
    · rw [show (j + 1) * 2 = j * 2 + 2 by omega]; exact h2
    · rw [show (j + 1) * 2 + 1 = j * 2 + 1 + 2 by omega]; exact h3
theorem hsCells_length (l : List (ByteArray × List UInt8)) (us : List Value) (h : us.length = l.length) : (hsCells l us).length = l.length * 2 := by
  induction l generalizing us with
  | nil => cases us <;> simp_all [hsCells]
  | cons y l ih =>
    cases us with
    | nil => cases h
    | cons u us =>
      have := ih us (by simpa using h)
      unfold hsCells at this ⊢
      simp only [List.zip_cons_cons, List.flatMap_cons, List.length_append, List.length_cons, List.length_nil, this]
      omega
/-- The slices of bytes of sums. -/
def SumsR (w : World) (us : List Value) (l : List (ByteArray × List UInt8)) : Prop := us.length = l.length ∧ ∀ (j : Nat) (x : ByteArray × List UInt8) (u : Value), l[j]? = some x → us[j]? = some u → (∃ ao n c, u = .slice ao n c) ∧ BSrc w u x.2
/-- What an own row of sums tells. -/
theorem hsR_own {w : World} {R n : Nat} {l : List (ByteArray × List UInt8)} {us : List Value} {v : Value} (hn : n = l.length) (ho : w.ownsRow R 50 2 v n (hsCells l us)) (hu : SumsR w us l) (hs : ∀ x ∈ l, x.1.size ≤ 140737488351232) : HsR w v l := by
  subst hn
  rcases ho.2 with ⟨h1, h2⟩ | ⟨g, cap, cur, rfl, hb, hg, h2, h3, h4, h5⟩
  · exact .inl ⟨h1, List.length_eq_zero_iff.1 h2⟩
  · refine .inr ⟨_, cap, rfl, h2, h3, fun j x hx => ?_⟩
    have hj : j < l.length := (List.getElem?_eq_some_iff.1 hx).1
    obtain ⟨u, e1, e2, e3⟩ := hsCells_get l us hu.1 j x hx
    obtain ⟨⟨ao, n, c, rfl⟩, h6⟩ := hu.2 j x u hx e1
    have get : ∀ i, i < l.length * 2 → cur[i]? = (hsCells l us)[i]? := fun i hi => by
      rw [← h5, List.getElem?_take_of_lt hi, Array.getElem?_toList]
    refine ⟨?_, hs x (List.mem_of_getElem? hx), ao, n, c, ?_, h6⟩
    · rw [addrAdd, Nat.zero_add]
      simp [World.cell?, hg, get (j * 2) (by omega), e2]
    · rw [addrAdd, Nat.zero_add]
      simp [World.cell?, hg, get (j * 2 + 1) (by omega), e3]
/-- The cells of sums that came in. -/
theorem hsR_cells {w : World} {a : Addr} {c n : Nat} {l : List (ByteArray × List UInt8)} (h : HsR w (.slice (some a) n c) l) : ∃ us, SumsR w us l ∧ n = l.length ∧ n ≤ c ∧ c ≤ maxLen ∧ (∀ x ∈ l, x.1.size ≤ 140737488351232) ∧ ∀ (i : Nat) (q : Value), (hsCells l us)[i]? = some q → w.cell? (a.add i) = some q := by
  rcases h with ⟨h1, _⟩ | ⟨a', c', h1, h2, h3, h4⟩
  · cases h1
  · injection h1 with e1 e2 e3
    cases e1
    subst e2 e3
    have hall : ∀ j, ∃ u : Value, ∀ x, l[j]? = some x → w.cell? (a.add (j * 2)) = some (.string x.1) ∧ x.1.size ≤ 140737488351232 ∧ (∃ ao n cp, u = .slice ao n cp) ∧ w.cell? ⟨(a.add (j * 2)).block, (a.add (j * 2)).off + 1, none⟩ = some u ∧ BSrc w u x.2 := by
      intro j
      cases e : l[j]? with
      | none => exact ⟨.nilIface, fun x hx => by cases hx⟩
      | some y =>
        obtain ⟨g1, g2, ao, n, cp, g3, g4⟩ := h4 j y e
        exact ⟨_, fun x hx => by cases hx; exact ⟨g1, g2, ⟨_, _, _, rfl⟩, g3, g4⟩⟩
    obtain ⟨F, hF⟩ := Classical.axiomOfChoice hall
    have hus : ((List.range l.length).map F).length = l.length := by simp
    refine ⟨(List.range l.length).map F, ⟨hus, fun j x u hx hu => ?_⟩, rfl, h2, h3, fun x hx => ?_, fun i q hq => ?_⟩
    · have hj : j < l.length := (List.getElem?_eq_some_iff.1 hx).1
      rw [List.getElem?_map, List.getElem?_range hj] at hu
      cases hu
      obtain ⟨_, _, g1, _, g2⟩ := hF j x hx
      exact ⟨g1, g2⟩
    · obtain ⟨j, hj⟩ := List.mem_iff_getElem?.1 hx
      exact (hF j x hj).2.1
    · have hi : i < l.length * 2 := by have := (List.getElem?_eq_some_iff.1 hq).1; rw [hsCells_length l _ hus] at this; exact this
      have hj : i / 2 < l.length := by omega
      obtain ⟨x, hx⟩ : ∃ x, l[i / 2]? = some x := ⟨_, List.getElem?_eq_getElem hj⟩
      obtain ⟨u, e1, e2, e3⟩ := hsCells_get l _ hus (i / 2) x hx
      rw [List.getElem?_map, List.getElem?_range hj] at e1
      have eu : F (i / 2) = u := by simpa using e1
      obtain ⟨g1, _, _, g3, _⟩ := hF (i / 2) x hx
      rcases Nat.mod_two_eq_zero_or_one i with h | h
      · have ei : i = i / 2 * 2 := by omega
        rw [ei] at hq ⊢
        rw [e2] at hq
        cases hq
        have e4 : i / 2 * 2 / 2 = i / 2 := by omega
        exact g1
      · have ei : i = i / 2 * 2 + 1 := by omega
        rw [ei] at hq ⊢
        rw [e3] at hq
        cases hq
        rw [fieldU _ _ 1 (by omega), ← eu]
        exact g3
/-- Behind append(other[:i], l[i+1:]...). -/
theorem hsR_erased {w : World} {g cap at' n : Nat} {l : List (ByteArray × List UInt8)} {us : List Value} {cur : Array Value} (hg : w.heap[g]? = some (.cells cur 50 (0, 0))) (hcap : n ≤ cap) (hcm : cap ≤ maxLen) (hcs : cur.size = cap * 2) (htk : cur.toList.take (n * 2) = hsCells l us)
    (hn : n = l.length) (hat : at' < n) (hl : (hsCells l us).length = n * 2) (hu : SumsR (w.drew.setCells g (0 + at' * 2) ((hsCells l us).drop ((at' + 1) * 2))) us l) (hids : ∀ x ∈ l, x.1.size ≤ 140737488351232) :
    HsR (w.drew.setCells g (0 + at' * 2) ((hsCells l us).drop ((at' + 1) * 2))) (.slice (some ⟨g, 0, none⟩) (at' + (n - (at' + 1))) cap) (l.eraseIdx at') := by
  have hlen : (l.eraseIdx at').length = at' + (n - (at' + 1)) := by rw [List.length_eraseIdx, if_pos (by omega)]; omega
  have get : ∀ i, i < n * 2 → w.drew.cell? ⟨g, i, none⟩ = (hsCells l us)[i]? := fun i hi => by
    show w.cell? ⟨g, i, none⟩ = _
    have : cur[i]? = (hsCells l us)[i]? := by rw [← htk, List.getElem?_take_of_lt hi, Array.getElem?_toList]
    simp [World.cell?, hg, this]
  have some' : ∀ i, i < cap * 2 → (w.drew.cell? ⟨g, i, none⟩).isSome = true := fun i hi => by
    show (w.cell? ⟨g, i, none⟩).isSome = true
    simp [World.cell?, hg, hcs, hi]
  have hdl : ((hsCells l us).drop ((at' + 1) * 2)).length = (n - (at' + 1)) * 2 := by rw [List.length_drop, hl]; omega
  have low : ∀ i, i < at' * 2 → (w.drew.setCells g (0 + at' * 2) ((hsCells l us).drop ((at' + 1) * 2))).cell? ⟨g, i, none⟩ = (hsCells l us)[i]? := fun i hi => by
    rw [World.cell?_setCells_out g _ _ _ _ (fun _ _ => Or.inl (by show i < 0 + at' * 2; omega))]
    exact get i (by omega)
  have high : ∀ i, at' * 2 ≤ i → i < (n - 1) * 2 → (w.drew.setCells g (0 + at' * 2) ((hsCells l us).drop ((at' + 1) * 2))).cell? ⟨g, i, none⟩ = (hsCells l us)[i + 2]? := fun i h1 h2 => by
    have hj : i - at' * 2 < ((hsCells l us).drop ((at' + 1) * 2)).length := by rw [hdl]; omega
    have := World.cell?_setCells_in g ((hsCells l us).drop ((at' + 1) * 2)) (0 + at' * 2) w.drew (fun j hj => some' _ (by rw [hdl] at hj; omega)) (i - at' * 2) hj
    rw [show 0 + at' * 2 + (i - at' * 2) = i by omega] at this
    rw [this, ← List.getElem?_eq_getElem hj, List.getElem?_drop]
    congr 1
    omega
  refine .inr ⟨_, cap, by rw [hlen], by rw [hlen]; omega, hcm, fun j x hx => ?_⟩
  have hj : j < at' + (n - (at' + 1)) := by rw [← hlen]; exact (List.getElem?_eq_some_iff.1 hx).1
  rw [List.getElem?_eraseIdx] at hx
  have hs : x.1.size ≤ 140737488351232 := by
    split at hx
    · exact hids x (List.mem_of_getElem? hx)
    · exact hids x (List.mem_of_getElem? hx)
  rw [show ((⟨g, 0, none⟩ : Addr).add (j * 2)) = ⟨g, j * 2, none⟩ from by rw [addrAdd, Nat.zero_add]]
  split at hx
  · obtain ⟨u, e1, e2, e3⟩ := hsCells_get l us hu.1 j x hx
    obtain ⟨⟨ao, m, c, rfl⟩, h6⟩ := hu.2 j x u hx e1
    exact ⟨(low _ (by omega)).trans e2, hs, ao, m, c, (low (j * 2 + 1) (by omega)).trans e3, h6⟩
  · obtain ⟨u, e1, e2, e3⟩ := hsCells_get l us hu.1 (j + 1) x hx
    obtain ⟨⟨ao, m, c, rfl⟩, h6⟩ := hu.2 (j + 1) x u hx e1
    refine ⟨(high _ (by omega) (by omega)).trans ?_, hs, ao, m, c, (high (j * 2 + 1) (by omega) (by omega)).trans ?_, h6⟩
    · rw [show j * 2 + 2 = (j + 1) * 2 by omega]; exact e2
    · rw [show j * 2 + 1 + 2 = (j + 1) * 2 + 1 by omega]; exact e3
theorem toL_erase (l : List (ByteArray × List UInt8)) (i : Nat) : toL (l.eraseIdx i) = (toL l).eraseIdx i := by
  unfold toL
  apply List.ext_getElem?
  intro j
  rw [List.getElem?_map, List.getElem?_eraseIdx, List.getElem?_eraseIdx, List.getElem?_map, List.getElem?_map]
  split <;> rfl
theorem heq_erased {l : List (ByteArray × List UInt8)} {i n : Nat} (hn : n = l.length) (hi : i < n) (hl : ((toL l).map (·.1)).Nodup) : (HEqP (toL l) (toL (l.eraseIdx i)) ↔ 1 < n) ∧ (HEqP (toL (l.eraseIdx i)) (toL l) ↔ 1 < n) := by
  have hsub : (toL (l.eraseIdx i)).Sublist (toL l) := by rw [toL_erase]; exact List.eraseIdx_sublist _ _
  have hlen : (toL (l.eraseIdx i)).length = n - 1 := by unfold toL; rw [List.length_map, List.length_eraseIdx, if_pos (by omega), ← hn]
  have hne : toL (l.eraseIdx i) ≠ [] ↔ 1 < n := by
    constructor
    · intro h
      rcases Nat.lt_or_ge 1 n with h1 | h1
      · exact h1
      · exact absurd (List.length_eq_zero_iff.1 (by rw [hlen]; omega)) h
    · intro h e
      rw [e] at hlen
      simp at hlen
      omega
  have h := heq_sub hl (List.Nodup.sublist (hsub.map _) hl) (fun p hp => hsub.subset hp)
  exact ⟨h.1.trans hne, h.2.trans hne⟩
theorem bsrc_setCell {w : World} {p : Addr} {x v : Value} {l : List UInt8} (h : BSrc w v l) (hne : ∀ ad n c, v = .slice (some ad) n c → ad.block ≠ p.block) : BSrc (w.setCell p x) v l := by
  rcases h with h | ⟨ad, cp, rfl, h1, h2⟩
  · exact .inl h
  · refine .inr ⟨ad, cp, rfl, h1, fun j y hj => ?_⟩
    rw [World.cell?_setCell_other _ _ _ _ (fun e => hne _ _ _ rfl (by rw [e]; unfold Addr.add; split <;> rfl))]
    exact h2 j y hj
/-- Behind other[i].Sum = .. -/
theorem hsR_turned {w : World} {g cap at' n : Nat} {l : List (ByteArray × List UInt8)} {us : List Value} {cur : Array Value} {x : ByteArray × List UInt8} {s' : List UInt8} {ao : Option Addr} {m c : Nat} (hg : w.heap[g]? = some (.cells cur 50 (0, 0))) (hcap : n ≤ cap) (hcm : cap ≤ maxLen) (hcs : cur.size = cap * 2) (htk : cur.toList.take (n * 2) = hsCells l us)
    (hn : n = l.length) (hx : l[at']? = some x) (hu : SumsR (w.setCell ⟨g, at' * 2 + 1, none⟩ (.slice ao m c)) us l) (hv : BSrc (w.setCell ⟨g, at' * 2 + 1, none⟩ (.slice ao m c)) (.slice ao m c) s') (hids : ∀ x ∈ l, x.1.size ≤ 140737488351232) :
    HsR (w.setCell ⟨g, at' * 2 + 1, none⟩ (.slice ao m c)) (.slice (some ⟨g, 0, none⟩) n cap) (l.set at' (x.1, s')) := by
  have hat : at' < n := by rw [hn]; exact (List.getElem?_eq_some_iff.1 hx).1
  have hlen : (l.set at' (x.1, s')).length = n := by rw [List.length_set, hn]
  have get : ∀ i, i < n * 2 → w.cell? ⟨g, i, none⟩ = (hsCells l us)[i]? := fun i hi => by
    have : cur[i]? = (hsCells l us)[i]? := by rw [← htk, List.getElem?_take_of_lt hi, Array.getElem?_toList]
    simp [World.cell?, hg, this]
  have other : ∀ i, i < n * 2 → i ≠ at' * 2 + 1 → (w.setCell ⟨g, at' * 2 + 1, none⟩ (.slice ao m c)).cell? ⟨g, i, none⟩ = (hsCells l us)[i]? := fun i hi hne => by
    rw [World.cell?_setCell_other _ _ _ _ (fun e => hne (by cases e; rfl))]
    exact get i hi
  have same : (w.setCell ⟨g, at' * 2 + 1, none⟩ (.slice ao m c)).cell? ⟨g, at' * 2 + 1, none⟩ = some (.slice ao m c) := by
    have hlt : at' * 2 + 1 < cur.size := by omega
    have : w.cell? ⟨g, at' * 2 + 1, none⟩ = some cur[at' * 2 + 1] := by simp [World.cell?, hg, hlt]
    exact World.cell?_setCell_same _ _ _ this
  refine .inr ⟨_, cap, by rw [hlen], by rw [hlen]; exact hcap, hcm, fun j y hy => ?_⟩
  have hj : j < n := by rw [← hlen]; exact (List.getElem?_eq_some_iff.1 hy).1
  rw [show ((⟨g, 0, none⟩ : Addr).add (j * 2)) = ⟨g, j * 2, none⟩ from by rw [addrAdd, Nat.zero_add]]
  by_cases h : at' = j
  · subst h
    rw [List.getElem?_set, if_pos rfl, if_pos (by omega)] at hy
    cases hy
    obtain ⟨u, e1, e2, e3⟩ := hsCells_get l us hu.1 at' x hx
    exact ⟨(other _ (by omega) (by omega)).trans e2, hids x (List.mem_of_getElem? hx), ao, m, c, same, hv⟩
  · rw [List.getElem?_set, if_neg h] at hy
    obtain ⟨u, e1, e2, e3⟩ := hsCells_get l us hu.1 j y hy
    obtain ⟨⟨ao2, m2, c2, rfl⟩, h6⟩ := hu.2 j y u hy e1
    exact ⟨(other _ (by omega) (by omega)).trans e2, hids y (List.mem_of_getElem? hy), ao2, m2, c2, (other (j * 2 + 1) (by omega) (by omega)).trans e3, h6⟩
theorem toL_set (l : List (ByteArray × List UInt8)) (i : Nat) (x : ByteArray) (s : List UInt8) : toL (l.set i (x, s)) = (toL l).set i (x.data.toList, s) := by
  unfold toL
  apply List.ext_getElem?
  intro j
  rw [List.getElem?_map, List.getElem?_set, List.getElem?_set, List.getElem?_map, List.length_map]
  split
  · split <;> rfl
  · rfl
end Go.Proofs.YthafpdceknleiaaGreatDoor
