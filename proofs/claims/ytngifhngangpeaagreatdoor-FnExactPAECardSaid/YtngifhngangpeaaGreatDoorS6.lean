/- laws.FnExactPAE. -/
import Derived.Test.YtngifhngangpeaaGreatDoorS5
import Derived.Test.YtngifhngangpeaaGreatDoorA0
import Derived.Deep.RegionWith
open Go Go.RowKit
namespace Go.Proofs.YtngifhngangpeaaGreatDoor
theorem pae_law2 (kind : ByteArray) {body : List UInt8} {v : Value} {N : Nat} {w : World} (hv : BSrc w v body) (hk : kind.size ≤ 4000) (hb : body.length ≤ 16384) (hN : TL N w) :
    Calls Tryz.prog 14 #[.string kind, v] w fun e w' => ∃ u, e = .returned u ∧ BSrc w' u (paeB kind.data.toList body) ∧ Below w.heap.size w w' :=
  (implPAE_any kind hv (by omega) (by omega) hN).mono fun _ _ h => h.src
theorem BSrc.shape2 {w : World} {v : Value} {l : List UInt8} (h : BSrc w v l) : ∃ ao cp, v = .slice ao l.length cp := by
  rcases h with ⟨rfl, rfl⟩ | ⟨ad, cp, rfl, _⟩
  · exact ⟨none, 0, rfl⟩
  · exact ⟨some ad, cp, rfl⟩
set_option maxRecDepth 100000 in
set_option maxHeartbeats 8000000 in
theorem fnExactPAE_sl (kind : ByteArray) (n : Int) (h0 : -9223372036854775808 ≤ n) (h1 : n ≤ 9223372036854775807) {l : List UInt8} {ao : Option Addr} {cp N : Nat} {w : World} (hv : BSrc w (.slice ao l.length cp) l) (hk : kind.size ≤ 9223372036854775807) (hN : TL N w) :
    Calls Tryz.prog 3 #[.string kind, .slice ao l.length cp, .int .i64 n] w fun e w' => e = .returned (.bool true) ∧ Below w.heap.size w w' := by
  have HN := Lib.hid hN
  have HV := Lib.hid hv
  have hll := hv.len
  unfold maxLen at hll
  clear hN hv
  by_cases g1 : 2147483647 < kind.size
  · have i1 : (2147483647 : Int) < (kind.size : Int) := by omega
    clear h0 h1
    go_enter Tryz.func3, Tryz.ntmps3
    go_wp2_with (fail)
    go_ret
    exact ⟨rfl, Below.refl _ _⟩
  by_cases g2 : 2147483647 < l.length
  · have i1 : ¬ (2147483647 : Int) < (kind.size : Int) := by omega
    have i2 : (2147483647 : Int) < (l.length : Int) := by omega
    clear h0 h1
    go_enter Tryz.func3, Tryz.ntmps3
    go_wp2_with (fail)
    go_ret
    exact ⟨rfl, Below.refl _ _⟩
  have i1 : ¬ (2147483647 : Int) < (kind.size : Int) := by omega
  have i2 : ¬ (2147483647 : Int) < (l.length : Int) := by omega
  by_cases g3 : 4000 < kind.size
  · have i3 : (4000 : Int) < (kind.size : Int) := by omega
    clear h0 h1
    go_enter Tryz.func3, Tryz.ntmps3
    go_wp2_with (fail)
    refine (awake_true N w HN.out).mono ?_
    rintro e w6 ⟨rfl, hb6⟩
    have HB6 := Lib.hid hb6
    clear hb6
    go_wp2_with (fail)
    go_ret
    exact ⟨rfl, HB6.out⟩
  have i3 : ¬ (4000 : Int) < (kind.size : Int) := by omega
  by_cases g4 : 16384 < l.length
  · have i4 : (16384 : Int) < (l.length : Int) := by omega
    clear h0 h1
    go_enter Tryz.func3, Tryz.ntmps3
    go_wp2_with (fail)
    refine (awake_true N w HN.out).mono ?_
    rintro e w6 ⟨rfl, hb6⟩
    have HB6 := Lib.hid hb6
    clear hb6
    go_wp2_with (fail)
    go_ret
    exact ⟨rfl, HB6.out⟩
  have i4 : ¬ (16384 : Int) < (l.length : Int) := by omega
  have hk4 : kind.size ≤ 4000 := by omega
  have hl4 : l.length ≤ 16384 := by omega
  obtain ⟨P, hP⟩ : ∃ P : ByteArray, P = ⟨(paeB kind.data.toList l).toArray⟩ := ⟨_, rfl⟩
  obtain ⟨G, hG⟩ : ∃ G : ByteArray, G = ⟨(sigB n l).toArray⟩ := ⟨_, rfl⟩
  have HCP : Hid (∀ (w : World) (v : Value), BSrc w v (paeB kind.data.toList l) → (convert 22 9 v).run Tryz.prog w = .ok (.string P) w) := fun w v h => by rw [hP]; exact h.conv
  have HCG : Hid (∀ (w : World) (v : Value), BSrc w v (sigB n l) → (convert 22 9 v).run Tryz.prog w = .ok (.string G) w) := fun w v h => by rw [hG]; exact h.conv
  have HT : Hid (∀ W, Below w.heap.size w W → TL N W) := fun W h => HN.out.mono HN.out.le h
  have H1 : Hid (∀ W, Below w.heap.size w W → Calls Tryz.prog 13 #[.string kind, .slice ao l.length cp] W fun e w' => ∃ u, e = .returned (.tuple #[u, .bool true]) ∧ BSrc w' u (paeB kind.data.toList l) ∧ Below W.heap.size W w') := fun W h => specPAE_any kind (HV.out.stay h) hk4 hl4 (HT.out W h)
  have H2 : Hid (∀ W, Below w.heap.size w W → Calls Tryz.prog 14 #[.string kind, .slice ao l.length cp] W fun e w' => ∃ u, e = .returned u ∧ BSrc w' u (paeB kind.data.toList l) ∧ Below W.heap.size W w') := fun W h => pae_law2 kind (HV.out.stay h) hk4 hl4 (HT.out W h)
  have H3 : Hid (∀ W, Below w.heap.size w W → Calls Tryz.prog 15 #[.int .i64 n, .slice ao l.length cp] W fun e w' => ∃ u, e = .returned (.tuple #[u, .bool true]) ∧ BSrc w' u (sigB n l) ∧ Below W.heap.size W w') := fun W h => specSig_any n h0 h1 (HV.out.stay h) (by omega) (HT.out W h)
  have H4 : Hid (∀ W, Below w.heap.size w W → Calls Tryz.prog 16 #[.int .i64 n, .slice ao l.length cp] W fun e w' => ∃ u, e = .returned u ∧ BSrc w' u (sigB n l) ∧ Below W.heap.size W w') := fun W h => implSigI_any n h0 h1 (HV.out.stay h) (by omega) (HT.out W h)
  have H5 : Hid (∀ W, Below w.heap.size w W → Calls Tryz.prog 12 #[] W fun e w' => e = .returned (.bool true) ∧ Below W.heap.size W w') := fun W h => awake_true N W (HT.out W h)
  clear hP hG h0 h1 g1 g2 g3 g4 hk
  go_enter Tryz.func3, Tryz.ntmps3
  go_wp2_with (fail)
  refine (H1.out w (Below.refl _ _)).mono ?_
  rintro e w1 ⟨u1, rfl, hu1, hb1⟩
  have HU1 := Lib.hid hu1
  have HB1 := Lib.hid hb1
  have HC1 : Hid (∀ W, Below w1.heap.size w1 W → (convert 22 9 u1).run Tryz.prog W = .ok (.string P) W) := fun W h => HCP.out _ _ (HU1.out.stay h)
  have HA1 : Hid (∀ W, Below w1.heap.size w1 W → Calls Tryz.prog 14 #[.string kind, .slice ao l.length cp] W fun e w' => ∃ u, e = .returned u ∧ BSrc w' u (paeB kind.data.toList l) ∧ Below W.heap.size W w') := fun W h => H2.out W (below_step HB1.out (Nat.le_refl _) h)
  have hB0 : Below w1.heap.size w1 w1.drew := (Below.refl _ _).drew
  have c1 := HC1.out _ hB0
  clear hu1 hb1
  go_wp2_with (fail)
  go_region_with (go_at_call 14; go_fit (HA1.out _ (by assumption)); rintro e w2 ⟨u, rfl, hu, hb2⟩; have hbb := below_step (by assumption) (Nat.le_refl _) hb2; have gu := HCP.out _ _ hu; have g1 := HC1.out _ hbb)
  all_goals
    have HB2 := Lib.hid (below_step HB1.out (Nat.le_refl _) hbb)
    clear hbb hb2 hu gu g1 c1 hB0
    go_wp2_with (fail)
    refine (H3.out _ HB2.out).mono ?_
    rintro e w3 ⟨u3, rfl, hu3, hb3⟩
    have HU3 := Lib.hid hu3
    have HB3 := Lib.hid (below_step HB2.out (Nat.le_refl _) hb3)
    have HC3 : Hid (∀ W, Below w3.heap.size w3 W → (convert 22 9 u3).run Tryz.prog W = .ok (.string G) W) := fun W h => HCG.out _ _ (HU3.out.stay h)
    have HA3 : Hid (∀ W, Below w3.heap.size w3 W → Calls Tryz.prog 16 #[.int .i64 n, .slice ao l.length cp] W fun e w' => ∃ u, e = .returned u ∧ BSrc w' u (sigB n l) ∧ Below W.heap.size W w') := fun W h => H4.out W (below_step HB3.out (Nat.le_refl _) h)
    have HA5 : Hid (∀ W, Below w3.heap.size w3 W → Calls Tryz.prog 12 #[] W fun e w' => e = .returned (.bool true) ∧ Below W.heap.size W w') := fun W h => H5.out W (below_step HB3.out (Nat.le_refl _) h)
    have hB3 : Below w3.heap.size w3 w3.drew := (Below.refl _ _).drew
    have c3 := HC3.out _ hB3
    clear hu3 hb3
    go_wp2_with (fail)
    go_region_with (first | (go_at_call 16; go_fit (HA3.out _ (by assumption)); rintro e w4 ⟨u4, rfl, hu4, hb4⟩; have hbb := below_step (by assumption) (Nat.le_refl _) hb4; have gu := HCG.out _ _ hu4; have g3 := HC3.out _ hbb) | (go_at_call 12; go_fit (HA5.out _ (by assumption)); rintro e w5 ⟨rfl, hb5⟩; have hbc := below_step (by assumption) (Nat.le_refl _) hb5))
    all_goals
      have HB5 := Lib.hid (below_step HB3.out (Nat.le_refl _) hbc)
      clear hbc hbb gu g3 c3 hB3
      go_wp2_with (fail)
      go_ret
      exact ⟨rfl, HB5.out⟩
theorem fnExactPAE_any (kind : ByteArray) (n : Int) (hn : (Lit.int .i64 n).wf = true) {l : List UInt8} {v : Value} {N : Nat} {w : World} (hv : BSrc w v l) (hk : kind.size ≤ maxLen) (hN : TL N w) :
    Calls Tryz.prog 3 #[.string kind, v, .int .i64 n] w fun e w' => e = .returned (.bool true) ∧ Below w.heap.size w w' := by
  have hw : -9223372036854775808 ≤ n ∧ n ≤ 9223372036854775807 := by simpa [Lit.wf, IntKind.min, IntKind.max, IntKind.signed, IntKind.bits] using hn
  unfold maxLen at hk
  obtain ⟨ao, cp, rfl⟩ := hv.shape2
  exact fnExactPAE_sl kind n hw.1 hw.2 hv (by omega) hN
end Go.Proofs.YtngifhngangpeaaGreatDoor
