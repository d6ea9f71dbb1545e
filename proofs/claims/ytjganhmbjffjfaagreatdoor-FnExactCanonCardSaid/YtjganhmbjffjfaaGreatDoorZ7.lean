/- laws.whole at a tree that is well: true only where there is a canonical text. laws.whole and laws.well at every tree: both true only where there is a canonical text. -/
import Derived.Test.YtjganhmbjffjfaaGreatDoorZ3
import Derived.Test.YtjganhmbjffjfaaGreatDoorZ5
import Derived.Test.YtjganhmbjffjfaaGreatDoorY6
import Derived.Lib.ParseIntBCases
open Go Go.RowKit
namespace Go.Proofs.YtjganhmbjffjfaaGreatDoor
/-- What digits spell behind acc. -/
def dgF (acc : Nat) (l : List UInt8) : Nat := l.foldl (fun a x => a * 10 + (x.toNat - 48)) acc
theorem dgF_lt : ∀ (l : List UInt8) (acc : Nat), (∀ x ∈ l, 48 ≤ x.toNat ∧ x.toNat ≤ 57) → dgF acc l < (acc + 1) * 10 ^ l.length
  | [], acc, _ => by simp [dgF]
  | x :: l, acc, h => by
    have h1 := h x List.mem_cons_self
    have h2 := dgF_lt l (acc * 10 + (x.toNat - 48)) fun y hy => h y (List.mem_cons_of_mem _ hy)
    have e : dgF acc (x :: l) = dgF (acc * 10 + (x.toNat - 48)) l := rfl
    rw [e, List.length_cons, Nat.pow_succ]
    refine Nat.lt_of_lt_of_le h2 ?_
    rw [show (acc + 1) * (10 ^ l.length * 10) = ((acc + 1) * 10) * 10 ^ l.length by rw [Nat.mul_comm (10 ^ l.length) 10, Nat.mul_assoc]]
    exact Nat.mul_le_mul_right _ (by omega)
theorem dgF_ge : ∀ (l : List UInt8) (acc : Nat), acc ≤ dgF acc l
  | [], _ => Nat.le_refl _
  | x :: l, acc => by
    have h := dgF_ge l (acc * 10 + (x.toNat - 48))
    have e : dgF acc (x :: l) = dgF (acc * 10 + (x.toNat - 48)) l := rfl
    omega
theorem dgM (M B : Nat) (hB : B < 1844674407370955162) (hM : B ≤ M) : ∀ (l : List UInt8) (acc : Nat), (∀ x ∈ l, 48 ≤ x.toNat ∧ x.toNat ≤ 57) → dgF acc l ≤ B → Lib.parseUintM M acc l = .ok (dgF acc l)
  | [], _, _, _ => rfl
  | x :: l, acc, hx, hb => by
    have h1 := hx x List.mem_cons_self
    have h2 : dgF acc (x :: l) = dgF (acc * 10 + (x.toNat - 48)) l := rfl
    have h3 := dgF_ge l (acc * 10 + (x.toNat - 48))
    rw [Lib.parseUintM, if_pos h1, if_neg (by omega), if_neg (by omega), h2]
    exact dgM M B hB hM l _ (fun y hy => hx y (List.mem_cons_of_mem _ hy)) (by rw [← h2]; exact hb)
theorem dig_uint {l : List UInt8} (h : ∀ x ∈ l, 48 ≤ x.toNat ∧ x.toNat ≤ 57) (hl : l.length ≤ 15) (h0 : l ≠ []) : ∃ u, Lib.parseUintB 64 l = .ok u ∧ u ≤ 1000000000000000 := by
  have h1 := dgF_lt l 0 h
  have h2 : 10 ^ l.length ≤ 10 ^ 15 := Nat.pow_le_pow_right (by decide) hl
  have h3 : dgF 0 l ≤ 1000000000000000 := by omega
  refine ⟨dgF 0 l, ?_, h3⟩
  unfold Lib.parseUintB
  rw [if_neg h0]
  exact dgM _ 1000000000000000 (by decide) (by decide) l 0 h h3
theorem num_can {x : ByteArray} (hd : HasD x) (hw : NumW x) : ∃ v, Lib.parseIntB 64 x.data.toList = .ok v := by
  obtain ⟨h0, h1⟩ := hd
  have hsz : x.data.toList.length = x.size := (Lib.size_eq x).symm
  have e0 : x.data.toList[0]? = some x[0] := by
    rw [Array.getElem?_toList]
    exact Array.getElem?_eq_getElem h0
  obtain ⟨c, r, e⟩ : ∃ c r, x.data.toList = c :: r := by
    cases e : x.data.toList with
    | nil => rw [e] at hsz; simp at hsz; omega
    | cons c r => exact ⟨c, r, rfl⟩
  have hc : c = x[0] := by
    rw [e] at e0
    simpa using e0
  rcases hw with ⟨h2, h3, h4⟩ | ⟨⟨_, h2⟩, h3, h4⟩
  · obtain ⟨u, hu, hle⟩ := dig_uint h3 (by omega) (by rw [e]; simp)
    rw [e] at h3 hu ⊢
    have h5 := h3 c List.mem_cons_self
    rw [Lib.parseIntB_plain _ _ _ (by omega) (by omega), hu]
    exact ⟨(u : Int), by unfold Lib.signlessC; simp only; rw [if_neg (by omega)]⟩
  · have h5 := h1 h0 h2
    have e6 : (x.extract 1 x.size).data.toList = r := by rw [bs_tail, bs_data, e]; rfl
    have e7 : (x.extract 1 x.size).size = r.length := by rw [Lib.size_eq, e6]
    rw [e6] at h3
    rw [e7] at h4
    have h6 : r.length + 1 = x.size := by rw [← hsz, e]; rfl
    obtain ⟨u, hu, hle⟩ := dig_uint h3 h4 (by intro h; rw [h] at h6; simp at h6; omega)
    have h7 : c = 45 := by
      rw [hc]
      exact UInt8.toNat_inj.1 h2
    rw [e, h7, Lib.parseIntB_minus, hu]
    exact ⟨-(u : Int), by unfold Lib.signedC; simp only; rw [if_neg (by omega)]⟩
theorem pickL {Q : VT → List UInt8 → Prop} : ∀ (l : List VT) (ns : List Nat), ns.length = l.length → (∀ j, j < l.length → ∃ y u n, l[j]? = some y ∧ ns[j]? = some n ∧ Q y u ∧ u.length ≤ 80000 * n) →
    ∃ L : List (List UInt8), L.length = l.length ∧ (∀ (j : Nat) (y : VT) (u : List UInt8), l[j]? = some y → L[j]? = some u → Q y u) ∧ (L.map List.length).sum ≤ 80000 * ns.sum
  | [], ns, _, _ => ⟨[], rfl, fun j y u hy => by simp at hy, Nat.zero_le _⟩
  | y :: l, [], h, _ => by cases h
  | y :: l, n :: ns, h, hj => by
    obtain ⟨L, h1, h2, h3⟩ := pickL (Q := Q) l ns (by simpa using h) fun j hl => by
      obtain ⟨y', u, n', a, b, c⟩ := hj (j + 1) (by simpa using hl)
      exact ⟨y', u, n', by simpa using a, by simpa using b, c⟩
    obtain ⟨y', u, n', a, b, c, d⟩ := hj 0 (by simp)
    simp only [List.getElem?_cons_zero, Option.some.injEq] at a b
    subst a b
    refine ⟨u :: L, by simp [h1], fun j y' u' hy hu => ?_, ?_⟩
    · match j, hy, hu with
      | 0, hy, hu =>
        simp only [List.getElem?_cons_zero, Option.some.injEq] at hy hu
        subst hy hu
        exact c
      | j + 1, hy, hu => exact h2 j y' u' (by simpa using hy) (by simpa using hu)
    · simp only [List.map_cons, List.sum_cons]
      omega
theorem joinC_len (L : List (List UInt8)) : (joinC L).length ≤ (L.map List.length).sum + L.length := by
  cases L with
  | nil => exact Nat.le_refl _
  | cons t l =>
    have h : ∀ m : List (List UInt8), (m.flatMap fun u => 44 :: u).length = (m.map List.length).sum + m.length := by
      intro m
      induction m with
      | nil => rfl
      | cons a m ih => rw [List.flatMap_cons, List.length_append, ih, List.length_cons, List.map_cons, List.sum_cons, List.length_cons]; omega
    rw [joinC, List.length_append, h, List.map_cons, List.sum_cons, List.length_cons]
    omega
theorem encStr_len (l : List UInt8) : (encStr l).length ≤ 4 * l.length + 2 := by
  have h1 := rep_le2 92 92 92 l
  have h2 := rep_le2 34 92 34 (repB 92 [92, 92] l)
  simp only [encStr, List.length_append, List.length_cons, List.length_nil]
  omega
theorem sum_perm {a b : List Nat} (h : a.Perm b) : a.sum = b.sum := by
  induction h with
  | nil => rfl
  | cons x _ ih => simp [ih]
  | swap x y l => simp only [List.sum_cons]; omega
  | trans _ _ h1 h2 => exact h1.trans h2
theorem lookT_hit {K : List (List UInt8 × List UInt8)} (hd : (K.map (·.1)).Nodup) : ∀ p ∈ K, lookT K p.1 = p.2 := by
  induction K with
  | nil => intro p hp; cases hp
  | cons q K ih =>
    intro p hp
    rw [List.map_cons, List.nodup_cons] at hd
    unfold lookT
    rw [List.find?_cons]
    rcases List.mem_cons.1 hp with rfl | hp
    · simp
    · have hne : (q.1 == p.1) = false := by
        simp only [beq_eq_false_iff_ne]
        intro e
        exact hd.1 (by rw [e]; exact List.mem_map_of_mem hp)
      rw [hne]
      exact ih hd.2 p hp
theorem items_len {K : List (List UInt8 × List UInt8)} (hd : (K.map (·.1)).Nodup) (hk : ∀ p ∈ K, p.1.length ≤ 200) : ((itemsT K).map List.length).sum ≤ 803 * K.length + (K.map fun p => p.2.length).sum := by
  have hp : ((K.map (·.1)).mergeSort leB).Perm (K.map (·.1)) := List.mergeSort_perm _ _
  have h1 : ((itemsT K).map List.length).sum = (((K.map (·.1)).map fun k => encStr k ++ 58 :: lookT K k).map List.length).sum := sum_perm ((hp.map _).map _)
  rw [h1, List.map_map, List.map_map]
  have h2 : ∀ M : List (List UInt8 × List UInt8), (∀ p ∈ M, lookT K p.1 = p.2) → (∀ p ∈ M, p.1.length ≤ 200) → (M.map (List.length ∘ (fun k => encStr k ++ 58 :: lookT K k) ∘ fun p => p.1)).sum ≤ 803 * M.length + (M.map fun p => p.2.length).sum := by
    intro M
    induction M with
    | nil => intro _ _; exact Nat.le_refl _
    | cons p M ih =>
      intro a b
      have h3 := ih (fun q hq => a q (List.mem_cons_of_mem _ hq)) fun q hq => b q (List.mem_cons_of_mem _ hq)
      have h4 := a p List.mem_cons_self
      have h5 := b p List.mem_cons_self
      have h6 := encStr_len p.1
      simp only [List.map_cons, List.sum_cons, Function.comp, List.length_append, List.length_cons, h4]
      omega
  exact h2 K (lookT_hit hd) hk
theorem ba_of {s : ByteArray} {l : List UInt8} (h : s.toList = l) : s = ⟨l.toArray⟩ := by
  rw [ByteArray.toList_eq] at h
  exact ByteArray.ext (by simp [← h])
theorem data_of {s : ByteArray} : s.data.toList = s.toList := (ByteArray.toList_eq s).symm
theorem whole_can {t : VT} {n : Nat} (h : PT t n) : ∀ (W : World) (v : Value), VR W v t → Calls Tryz.prog 11 #[v] W (WhP (∃ u, CanT t u ∧ u.length ≤ 80000 * n) W) := by
  induction h with
  | node t ns hx hn hm hd hl hc ih =>
    intro W v hv
    obtain ⟨kv, lv, rfl, _, _, h3, h4⟩ := hv.ex
    obtain ⟨k1, k2, k3, rfl⟩ := strR_sl h3
    by_cases hnum : t.kind.toList = [110, 117, 109, 98, 101, 114]
    · obtain ⟨l1, l2, l3, rfl⟩ := lr_sl h4
      refine (whole_num hnum hx W).mono ?_
      rintro e w' ⟨b, rfl, hb, hg⟩
      refine ⟨b, rfl, hb, fun hb1 => ?_⟩
      have hdig : HasD t.text := by
        rcases hd with h | ⟨h, _⟩ | ⟨_, h⟩ | h | h | ⟨h, _⟩
        · exact absurd (h.symm.trans hnum) (by decide)
        · exact absurd (h.symm.trans hnum) (by decide)
        · exact h
        · exact absurd (h.symm.trans hnum) (by decide)
        · exact absurd (h.symm.trans hnum) (by decide)
        · exact absurd (h.symm.trans hnum) (by decide)
      obtain ⟨v, hv⟩ := num_can hdig (hg hb1)
      refine ⟨_, CanT.num t v (ba_of hnum) (by omega) hv, ?_⟩
      rw [← Lib.size_eq]
      omega
    · have hR := whole_rest (x := t.text) (w := W) (k1 := k1) (k2 := k2) (k3 := k3) (fun j => ∃ y u n, t.list[j]? = some y ∧ ns[j]? = some n ∧ CanT y u ∧ u.length ≤ 80000 * n) _ _ hnum rfl rfl h4 (fun _ j y hy W' v' hv' => by
        obtain ⟨n', hn'⟩ : ∃ n', ns[j]? = some n' := ⟨_, List.getElem?_eq_getElem (by rw [hl]; exact (List.getElem?_eq_some_iff.1 hy).1)⟩
        refine (ih j y n' hy hn' W' v' hv').mono ?_
        rintro e w' ⟨b, rfl, hb, hg⟩
        refine ⟨b, rfl, hb, fun hb1 => ?_⟩
        obtain ⟨u, h1, h2⟩ := hg hb1
        exact ⟨y, u, n', hy, hn', h1, h2⟩)
      refine hR.mono ?_
      rintro e w' ⟨b, rfl, hb, hg⟩
      refine ⟨b, rfl, hb, fun hb1 => ?_⟩
      have hg1 := hg hb1
      rcases hd with h | ⟨h, hh⟩ | ⟨h, _⟩ | h | h | ⟨h, hkl, hnd, hks⟩
      · exact ⟨_, CanT.null t (ba_of h), by simp; omega⟩
      · rcases hh with hh | hh
        · exact ⟨_, CanT.bool t true (ba_of h) (ba_of hh), by simp [boolT]; omega⟩
        · exact ⟨_, CanT.bool t false (ba_of h) (ba_of hh), by simp [boolT]; omega⟩
      · exact absurd h hnum
      · refine ⟨_, CanT.str t (ba_of h) (by omega), ?_⟩
        have := encStr_len t.text.data.toList
        rw [← Lib.size_eq] at this
        omega
      · obtain ⟨L, h1, h2, h5⟩ := pickL (Q := CanT) t.list ns hl (hg1 (by rw [h]; rfl))
        refine ⟨_, CanT.list t L (ba_of h) h1 (by omega) fun j y u hy hu => h2 j y u hy hu, ?_⟩
        have := joinC_len L
        simp only [List.length_append, List.length_cons, List.length_nil]
        omega
      · obtain ⟨L, h1, h2, h5⟩ := pickL (Q := CanT) t.list ns hl (hg1 (by rw [h]; rfl))
        refine ⟨_, CanT.obj t L (ba_of h) h1 (by omega) hkl hnd (fun s hs => by have := hks s hs; omega) fun j y u hy hu => h2 j y u hy hu, ?_⟩
        have hz : ((t.keys.map (·.data.toList)).zip L).map (·.1) = t.keys.map (·.data.toList) := List.map_fst_zip (by rw [List.length_map]; omega)
        have hz2 : ((t.keys.map (·.data.toList)).zip L).map (fun p => p.2.length) = L.map List.length := by
          rw [show (fun p : List UInt8 × List UInt8 => p.2.length) = List.length ∘ (·.2) from rfl, ← List.map_map, List.map_snd_zip (by rw [List.length_map]; omega)]
        have h6 := items_len (K := (t.keys.map (·.data.toList)).zip L) (by rw [hz]; exact hnd) (fun p hp => by
          obtain ⟨s, hs, e⟩ := List.mem_map.1 (List.of_mem_zip hp).1
          have := hks s hs
          rw [← e, ← Lib.size_eq]
          exact this)
        have h7 := joinC_len (itemsT ((t.keys.map (·.data.toList)).zip L))
        have h8 : ((t.keys.map (·.data.toList)).zip L).length = t.list.length := by rw [List.length_zip, List.length_map]; omega
        have h9 : (itemsT ((t.keys.map (·.data.toList)).zip L)).length = t.list.length := by
          unfold itemsT
          rw [List.length_map, List.length_mergeSort, List.length_map, h8]
        rw [hz2, h8] at h6
        rw [h9] at h7
        simp only [List.length_append, List.length_cons, List.length_nil]
        omega
set_option maxRecDepth 100000 in
set_option maxHeartbeats 4000000 in
theorem well_pt {v : Value} {t : VT} {w : World} (h : VR w v t) : Calls Tryz.prog 10 #[v] w (WhP (∃ n, n ≤ 80 ∧ PT t n) w) := by
  obtain ⟨kv, lv, rfl, _, _, h3, h4⟩ := h.ex
  obtain ⟨k1, k2, k3, rfl⟩ := strR_sl h3
  obtain ⟨l1, l2, l3, rfl⟩ := lr_sl h4
  obtain ⟨tk, htk⟩ : ∃ tk, tk = t.kind := ⟨_, rfl⟩
  obtain ⟨tt, htt⟩ : ∃ tt, tt = t.text := ⟨_, rfl⟩
  rw [← htk, ← htt] at h ⊢
  obtain ⟨W, hW⟩ : ∃ W, W = w.alloc (.cells #[.string tk, .string tt, .slice k1 k2 k3, .slice l1 l2 l3] 25) := ⟨_, rfl⟩
  have HB : Hid (Below w.heap.size w W) := by show Below _ _ _; rw [hW]; exact (Below.refl _ _).alloc (Nat.le_refl _) _
  have HP : Hid (Calls Tryz.prog 31 #[.agg #[.string tk, .string tt, .slice k1 k2 k3, .slice l1 l2 l3], .int .i64 20] W (PN t W)) := Lib.hid (parts_pt 20 (by decide) _ t W (h.stayB HB.out))
  unfold PN at HP
  have HW := Lib.hid hW
  clear hW h h3 h4 htk htt
  go_enter Tryz.func10, Tryz.ntmps10
  go_wp2_with (fail)
  rw [← HW.out]
  (with_reducible refine HP.out.mono ?_)
  rintro e w1 ⟨n, rfl, hn, hb, hp⟩
  have HB1 := Lib.hid (HB.out.trans (hb.mono HB.out.size))
  have HPT := Lib.hid hp
  clear hb hp
  by_cases h80 : n ≤ 80
  · have z1 : decide ((n : Int) ≤ 80) = true := decide_eq_true (by omega)
    have HE := Lib.hid (HPT.out h80)
    go_wp2_with (fail)
    go_ret
    exact ⟨_, rfl, HB1.out, fun _ => ⟨n, h80, HE.out⟩⟩
  · have z1 : decide ((n : Int) ≤ 80) = false := decide_eq_false (by omega)
    go_wp2_with (fail)
    go_ret
    exact ⟨_, rfl, HB1.out, fun h => by simp at h⟩
end Go.Proofs.YtjganhmbjffjfaaGreatDoor
