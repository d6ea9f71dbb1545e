/- laws.FnPAEApart. -/
import Derived.Test.YtlliohgbbboleaaGreatDoorA5
import Derived.Deep.RegionWith
open Go Go.RowKit
namespace Go.Proofs.YtlliohgbbboleaaGreatDoor
theorem BSrc.shape {w : World} {v : Value} {l : List UInt8} (h : BSrc w v l) : ∃ ao cp, v = .slice ao l.length cp := by
  rcases h with ⟨rfl, rfl⟩ | ⟨ad, cp, rfl, _⟩
  · exact ⟨none, 0, rfl⟩
  · exact ⟨some ad, cp, rfl⟩
/-- What impl.PAE gives, as the law uses it. -/
theorem pae_law (kind : ByteArray) {body : List UInt8} {v : Value} {N : Nat} {w : World} (hv : BSrc w v body) (hk : kind.size ≤ 4000) (hb : body.length ≤ 16384) (hN : TL N w) :
    Calls Tryz.prog 11 #[.string kind, v] w fun e w' => ∃ u, e = .returned u ∧ BSrc w' u (paeB kind.data.toList body) ∧ Below w.heap.size w w' :=
  (implPAE_any kind hv (by omega) (by omega) hN).mono fun _ _ h => h.src
set_option maxRecDepth 100000 in
set_option maxHeartbeats 8000000 in
theorem fnPAEApart_any (a b : ByteArray) {x y : List UInt8} {ao bo : Option Addr} {cx cy N : Nat} {w : World} (hx : BSrc w (.slice ao x.length cx) x) (hy : BSrc w (.slice bo y.length cy) y) (ha : a.size ≤ 9223372036854775807) (hb : b.size ≤ 9223372036854775807) (hN : TL N w) :
    Calls Tryz.prog 4 #[.string a, .slice ao x.length cx, .string b, .slice bo y.length cy] w fun e w' => e = .returned (.bool true) ∧ Below w.heap.size w w' := by
  have HN := Lib.hid hN
  have HX := Lib.hid hx
  have HY := Lib.hid hy
  have hxl := hx.len
  have hyl := hy.len
  clear hN hx hy
  unfold maxLen at hxl hyl
  by_cases h1 : 2147483647 < a.size
  · have i1 : (2147483647 : Int) < (a.size : Int) := by omega
    go_enter Tryz.func4, Tryz.ntmps4
    go_wp2_with (fail)
    go_ret
    exact ⟨rfl, Below.refl _ _⟩
  by_cases h2 : 2147483647 < x.length
  · have i1 : ¬ (2147483647 : Int) < (a.size : Int) := by omega
    have i2 : (2147483647 : Int) < (x.length : Int) := by omega
    go_enter Tryz.func4, Tryz.ntmps4
    go_wp2_with (fail)
    go_ret
    exact ⟨rfl, Below.refl _ _⟩
  by_cases h3 : 2147483647 < b.size
  · have i1 : ¬ (2147483647 : Int) < (a.size : Int) := by omega
    have i2 : ¬ (2147483647 : Int) < (x.length : Int) := by omega
    have i3 : (2147483647 : Int) < (b.size : Int) := by omega
    go_enter Tryz.func4, Tryz.ntmps4
    go_wp2_with (fail)
    go_ret
    exact ⟨rfl, Below.refl _ _⟩
  by_cases h4 : 2147483647 < y.length
  · have i1 : ¬ (2147483647 : Int) < (a.size : Int) := by omega
    have i2 : ¬ (2147483647 : Int) < (x.length : Int) := by omega
    have i3 : ¬ (2147483647 : Int) < (b.size : Int) := by omega
    have i4 : (2147483647 : Int) < (y.length : Int) := by omega
    go_enter Tryz.func4, Tryz.ntmps4
    go_wp2_with (fail)
    go_ret
    exact ⟨rfl, Below.refl _ _⟩
  have i1 : ¬ (2147483647 : Int) < (a.size : Int) := by omega
  have i2 : ¬ (2147483647 : Int) < (x.length : Int) := by omega
  have i3 : ¬ (2147483647 : Int) < (b.size : Int) := by omega
  have i4 : ¬ (2147483647 : Int) < (y.length : Int) := by omega
  obtain ⟨W, hW⟩ : ∃ W, W = w.alloc (.cells #[.string a, .string b] 9) := ⟨_, rfl⟩
  have HB1 : Hid (Below w.heap.size w W) := by show Below _ _ _; rw [hW]; exact (Below.refl _ _).alloc (Nat.le_refl _) _
  have HG : Hid (W.heap[w.heap.size]? = some (.cells #[.string a, .string b] 9 (0, 0))) := by show _ = _; rw [hW]; exact alloc_at _ _
  have HW := Lib.hid hW
  clear hW
  by_cases hs : a.size ≤ 4000 ∧ b.size ≤ 4000
  · have hd : decide (a.size ≤ 4000 ∧ b.size ≤ 4000) = true := decide_eq_true hs
    by_cases hsum : 16384 < x.length + y.length
    · have i5 : (16384 : Int) < (x.length : Int) + (y.length : Int) := by omega
      have hw1 : IntKind.i64.wrap ((x.length : Int) + (y.length : Int)) = (x.length : Int) + (y.length : Int) := by rw [IntKind.wrap_i64]; omega
      go_enter Tryz.func4, Tryz.ntmps4
      go_wp2_with (fail)
      rw [← HW.out]
      refine (short_2 4000 a b w.heap.size W (by decide) HG.out).mono ?_
      rintro e w1 ⟨rfl, hw'⟩
      subst w1
      rw [hd]
      clear HW
      go_wp2_with (fail)
      refine (awake_true N W (HN.out.mono HN.out.le HB1.out)).mono ?_
      rintro e w6 ⟨rfl, hb6⟩
      have HB6 := Lib.hid (below_step HB1.out (Nat.le_refl _) hb6)
      clear hb6
      go_wp2_with (fail)
      go_ret
      exact ⟨rfl, HB6.out⟩
    · have i5 : ¬ (16384 : Int) < (x.length : Int) + (y.length : Int) := by omega
      have hw1 : IntKind.i64.wrap ((x.length : Int) + (y.length : Int)) = (x.length : Int) + (y.length : Int) := by rw [IntKind.wrap_i64]; omega
      have cx1 := (HX.out.stay HB1.out).conv
      have cy1 := (HY.out.stay HB1.out).conv
      obtain ⟨sx, hsx⟩ : ∃ sx : ByteArray, sx = ⟨x.toArray⟩ := ⟨_, rfl⟩
      obtain ⟨sy, hsy⟩ : ∃ sy : ByteArray, sy = ⟨y.toArray⟩ := ⟨_, rfl⟩
      obtain ⟨sp, hsp⟩ : ∃ sp : ByteArray, sp = ⟨(paeB a.data.toList x).toArray⟩ := ⟨_, rfl⟩
      obtain ⟨sq, hsq⟩ : ∃ sq : ByteArray, sq = ⟨(paeB b.data.toList y).toArray⟩ := ⟨_, rfl⟩
      rw [← hsx] at cx1
      rw [← hsy] at cy1
      have hxy : sx = sy ↔ x = y := by rw [hsx, hsy]; simp
      have hpq : sp = sq ↔ a = b ∧ x = y := by
        rw [hsp, hsq]
        constructor
        · intro h
          have h2 : paeB a.data.toList x = paeB b.data.toList y := by simpa using h
          obtain ⟨h3, h4⟩ := paeB_inj h2
          exact ⟨ByteArray.ext (Array.toList_inj.1 h3), h4⟩
        · rintro ⟨rfl, rfl⟩; rfl
      have HPQ := Lib.hid hpq
      have HXY := Lib.hid hxy
      have HSP := Lib.hid hsp
      have HSQ := Lib.hid hsq
      have hN0 : ∀ W', Below w.heap.size w W' → TL N W' := fun W' h => HN.out.mono HN.out.le h
      have HK1 : Hid (∀ W', Below w.heap.size w W' → Calls Tryz.prog 11 #[.string a, .slice ao x.length cx] W' fun e w' => ∃ u, e = .returned u ∧ BSrc w' u (paeB a.data.toList x) ∧ Below W'.heap.size W' w') := fun W' h => pae_law a (HX.out.stay h) hs.1 (by omega) (hN0 W' h)
      have HK2 : Hid (∀ W', Below w.heap.size w W' → Calls Tryz.prog 11 #[.string b, .slice bo y.length cy] W' fun e w' => ∃ u, e = .returned u ∧ BSrc w' u (paeB b.data.toList y) ∧ Below W'.heap.size W' w') := fun W' h => pae_law b (HY.out.stay h) hs.2 (by omega) (hN0 W' h)
      have HK3 : Hid (∀ W', Below w.heap.size w W' → Calls Tryz.prog 9 #[] W' fun e w' => e = .returned (.bool true) ∧ Below W'.heap.size W' w') := fun W' h => awake_true N W' (hN0 W' h)
      have hB0 : Below w.heap.size w W.drew := HB1.out.drew
      have HCP : Hid (∀ (w : World) (v : Value), BSrc w v (paeB a.data.toList x) → (convert 22 9 v).run Tryz.prog w = .ok (.string sp) w) := fun w v h => by rw [hsp]; exact h.conv
      have HCQ : Hid (∀ (w : World) (v : Value), BSrc w v (paeB b.data.toList y) → (convert 22 9 v).run Tryz.prog w = .ok (.string sq) w) := fun w v h => by rw [hsq]; exact h.conv
      have tl : ∀ s t : ByteArray, (s.toList == t.toList) = decide (s = t) := fun s t => by
        by_cases h : s = t
        · subst h; simp
        · have : ¬ s.toList = t.toList := fun h2 => h (by rw [ByteArray.toList_eq, ByteArray.toList_eq] at h2; exact ByteArray.ext (Array.toList_inj.1 h2))
          simp [h, this]
      have ab : a.toList = b.toList ↔ a = b := by rw [ByteArray.toList_eq, ByteArray.toList_eq]; exact ⟨fun h => ByteArray.ext (Array.toList_inj.1 h), fun h => by rw [h]⟩
      have HR1 : Hid (a.toList = b.toList → (sp.toList == sq.toList) = (sx.toList == sy.toList)) := fun h => by
        rw [tl, tl]
        have h1 := ab.1 h
        by_cases h2 : x = y
        · rw [decide_eq_true (hpq.2 ⟨h1, h2⟩), decide_eq_true (hxy.2 h2)]
        · rw [decide_eq_false (fun h3 => h2 (hpq.1 h3).2), decide_eq_false (fun h3 => h2 (hxy.1 h3))]
      have HR2 : Hid (¬ a.toList = b.toList → (sp.toList == sq.toList) = false) := fun h => by
        rw [tl]
        exact decide_eq_false fun h3 => h (ab.2 (hpq.1 h3).1)
      clear hsx hsy hsp hsq hpq hxy hN0 tl ab HPQ HXY
      by_cases hab : a.toList = b.toList
      · obtain ⟨bx, hbx⟩ : ∃ bx, bx = (sx.toList == sy.toList) := ⟨_, rfl⟩
        have hr := HR1.out hab
        rw [← hbx] at hr
        have hbx' := hbx.symm
        clear hbx HR1 HR2
        go_enter Tryz.func4, Tryz.ntmps4
        go_wp2_with (fail)
        rw [← HW.out]
        refine (short_2 4000 a b w.heap.size W (by decide) HG.out).mono ?_
        rintro e w1 ⟨rfl, hw'⟩
        subst w1
        rw [hd]
        clear HW
        go_wp2_with (fail)
        go_region_with (first | (go_at_call 11; go_fit (HK1.out _ (by assumption)); rintro e w2 ⟨u, rfl, hu, hb2⟩; have hbb := below_step (by assumption) (Nat.le_refl _) hb2; have gu := HCP.out _ _ hu) | (go_at_call 11; go_fit (HK2.out _ (by assumption)); rintro e w3 ⟨u3, rfl, hu3, hb3⟩; have hbc := below_step (by assumption) (Nat.le_refl _) hb3; have gu3 := HCQ.out _ _ hu3; have gu4 := HCP.out _ _ (BSrc.stay (by assumption) hb3)) | (go_at_call 9; go_fit (HK3.out _ (by assumption)); rintro e w4 ⟨rfl, hb4⟩; have hbd := below_step (by assumption) (Nat.le_refl _) hb4))
        all_goals
          have HBD := Lib.hid hbd
          clear hbd
          go_wp2_with (fail)
          go_ret
          exact ⟨rfl, HBD.out⟩
      · have hr := HR2.out hab
        clear HR1 HR2
        go_enter Tryz.func4, Tryz.ntmps4
        go_wp2_with (fail)
        rw [← HW.out]
        refine (short_2 4000 a b w.heap.size W (by decide) HG.out).mono ?_
        rintro e w1 ⟨rfl, hw'⟩
        subst w1
        rw [hd]
        clear HW
        go_wp2_with (fail)
        go_region_with (first | (go_at_call 11; go_fit (HK1.out _ (by assumption)); rintro e w2 ⟨u, rfl, hu, hb2⟩; have hbb := below_step (by assumption) (Nat.le_refl _) hb2; have gu := HCP.out _ _ hu) | (go_at_call 11; go_fit (HK2.out _ (by assumption)); rintro e w3 ⟨u3, rfl, hu3, hb3⟩; have hbc := below_step (by assumption) (Nat.le_refl _) hb3; have gu3 := HCQ.out _ _ hu3; have gu4 := HCP.out _ _ (BSrc.stay (by assumption) hb3)) | (go_at_call 9; go_fit (HK3.out _ (by assumption)); rintro e w4 ⟨rfl, hb4⟩; have hbd := below_step (by assumption) (Nat.le_refl _) hb4))
        all_goals
          have HBD := Lib.hid hbd
          clear hbd
          go_wp2_with (fail)
          go_ret
          exact ⟨rfl, HBD.out⟩
  · have hd : decide (a.size ≤ 4000 ∧ b.size ≤ 4000) = false := decide_eq_false hs
    go_enter Tryz.func4, Tryz.ntmps4
    go_wp2_with (fail)
    rw [← HW.out]
    refine (short_2 4000 a b w.heap.size W (by decide) HG.out).mono ?_
    rintro e w1 ⟨rfl, hw'⟩
    subst w1
    rw [hd]
    clear HW
    go_wp2_with (fail)
    refine (awake_true N W (HN.out.mono HN.out.le HB1.out)).mono ?_
    rintro e w6 ⟨rfl, hb6⟩
    have HB6 := Lib.hid (below_step HB1.out (Nat.le_refl _) hb6)
    clear hb6
    go_wp2_with (fail)
    go_ret
    exact ⟨rfl, HB6.out⟩
theorem fnPAEApart_all (a b : ByteArray) {x y : List UInt8} {u v : Value} {N : Nat} {w : World} (hx : BSrc w u x) (hy : BSrc w v y) (ha : a.size ≤ maxLen) (hb : b.size ≤ maxLen) (hN : TL N w) :
    Calls Tryz.prog 4 #[.string a, u, .string b, v] w fun e w' => e = .returned (.bool true) ∧ Below w.heap.size w w' := by
  unfold maxLen at ha hb
  obtain ⟨ao, cx, rfl⟩ := hx.shape
  obtain ⟨bo, cy, rfl⟩ := hy.shape
  exact fnPAEApart_any a b hx hy (by omega) (by omega) hN
end Go.Proofs.YtlliohgbbboleaaGreatDoor
