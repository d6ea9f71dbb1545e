/- laws.FnPAE. laws.FnPAE at a nil body. -/
import Derived.Test.YtlliohgbbboleaaGreatDoorA2
import Derived.Deep.RegionHeld3
open Go Go.RowKit
namespace Go.Proofs.YtlliohgbbboleaaGreatDoor
theorem below_step {n : Nat} {w W W' : World} (h : Below n w W) (hn : n ≤ w.heap.size) (h2 : Below W.heap.size W W') : Below n w W' := h.trans (h2.mono (Nat.le_trans hn h.size))
set_option maxRecDepth 100000 in
set_option maxHeartbeats 8000000 in
theorem fnPAE_some (kind : ByteArray) {body : List UInt8} {ad : Addr} {cp N : Nat} {w : World} (hv : BSrc w (.slice (some ad) body.length cp) body) (hk : kind.size ≤ 9223372036854775807) (hN : TL N w) :
    Calls Tryz.prog 3 #[.string kind, .slice (some ad) body.length cp] w fun e w' => e = .returned (.bool true) ∧ Below w.heap.size w w' := by
  have HN := Lib.hid hN
  have HV := Lib.hid hv
  have hbl := hv.len
  clear hN hv
  unfold maxLen at hbl
  by_cases h1 : 2147483647 < kind.size
  · have i1 : (2147483647 : Int) < (kind.size : Int) := by omega
    go_enter Tryz.func3, Tryz.ntmps3
    go_wp2_with (fail)
    go_ret
    exact ⟨rfl, Below.refl _ _⟩
  · by_cases h2 : 2147483647 < body.length
    · have i1 : ¬ (2147483647 : Int) < (kind.size : Int) := by omega
      have i2 : (2147483647 : Int) < (body.length : Int) := by omega
      go_enter Tryz.func3, Tryz.ntmps3
      go_wp2_with (fail)
      go_ret
      exact ⟨rfl, Below.refl _ _⟩
    · by_cases h3 : 4000 < kind.size
      · have i1 : ¬ (2147483647 : Int) < (kind.size : Int) := by omega
        have i2 : ¬ (2147483647 : Int) < (body.length : Int) := by omega
        have i3 : (4000 : Int) < (kind.size : Int) := by omega
        go_enter Tryz.func3, Tryz.ntmps3
        go_wp2_with (fail)
        refine (awake_true N w HN.out).mono ?_
        rintro e w6 ⟨rfl, hb6⟩
        have HB6 := Lib.hid hb6
        clear hb6
        go_wp2_with (fail)
        go_ret
        exact ⟨rfl, HB6.out⟩
      · by_cases h4 : 16384 < body.length
        · have i1 : ¬ (2147483647 : Int) < (kind.size : Int) := by omega
          have i2 : ¬ (2147483647 : Int) < (body.length : Int) := by omega
          have i3 : ¬ (4000 : Int) < (kind.size : Int) := by omega
          have i4 : (16384 : Int) < (body.length : Int) := by omega
          go_enter Tryz.func3, Tryz.ntmps3
          go_wp2_with (fail)
          refine (awake_true N w HN.out).mono ?_
          rintro e w6 ⟨rfl, hb6⟩
          have HB6 := Lib.hid hb6
          clear hb6
          go_wp2_with (fail)
          go_ret
          exact ⟨rfl, HB6.out⟩
        · have hk1 : kind.size ≤ 4000 := by omega
          have hb1 : body.length ≤ 16384 := by omega
          obtain ⟨d1, hd1⟩ : ∃ d1 : ByteArray, d1 = ⟨(Lib.decDigits kind.size).toArray⟩ := ⟨_, rfl⟩
          obtain ⟨d2, hd2⟩ : ∃ d2 : ByteArray, d2 = ⟨(Lib.decDigits body.length).toArray⟩ := ⟨_, rfl⟩
          obtain ⟨sb, hsb⟩ : ∃ sb : ByteArray, sb = ⟨body.toArray⟩ := ⟨_, rfl⟩
          have hl1 : d1.size ≤ 40 := by rw [hd1, ← Lib.itoa_nonneg]; show (List.toArray _).size ≤ _; rw [List.size_toArray]; exact itoa_short kind.size (by omega)
          have hl2 : d2.size ≤ 40 := by rw [hd2, ← Lib.itoa_nonneg]; show (List.toArray _).size ≤ _; rw [List.size_toArray]; exact itoa_short body.length (by omega)
          have hl3 : sb.size ≤ 16384 := by rw [hsb]; show body.toArray.size ≤ _; rw [List.size_toArray]; exact hb1
          have HD1 := Lib.hid hd1
          have HD2 := Lib.hid hd2
          have HSB := Lib.hid hsb
          have HK : Hid (∀ W, Calls Tryz.prog 10 #[.int .u64 (kind.size : Int)] W fun e w' => e = .returned (.string d1) ∧ Below W.heap.size W w') := fun W => by rw [hd1]; exact digits_any kind.size (by omega) W
          have HL : Hid (∀ W, Calls Tryz.prog 10 #[.int .u64 (body.length : Int)] W fun e w' => e = .returned (.string d2) ∧ Below W.heap.size W w') := fun W => by rw [hd2]; exact digits_any body.length (by omega) W
          have HC : Hid (∀ W, Below w.heap.size w W → (convert 22 9 (.slice (some ad) body.length cp)).run Tryz.prog W = .ok (.string sb) W) := fun W hW => by rw [hsb]; exact (HV.out.stay hW).conv
          have hB0 : Below w.heap.size w w.drew := (Below.refl _ _).drew
          have c0 := HC.out _ hB0
          have hw1 : IntKind.u64.wrap (kind.size : Int) = kind.size := by rw [IntKind.wrap_u64]; omega
          have hw2 : IntKind.u64.wrap (body.length : Int) = body.length := by rw [IntKind.wrap_u64]; omega
          clear hd1 hd2 hsb
          have hz0 : ¬ 9223372036854775807 < 7 + d1.size := by omega
          have hz1 : ¬ 9223372036854775807 < 7 + d1.size + 1 := by omega
          have hz2 : ¬ 9223372036854775807 < 7 + d1.size + 1 + kind.size := by omega
          have hz3 : ¬ 9223372036854775807 < 7 + d1.size + 1 + kind.size + 1 := by omega
          have hz4 : ¬ 9223372036854775807 < 7 + d1.size + 1 + kind.size + 1 + d2.size := by omega
          have hz5 : ¬ 9223372036854775807 < 7 + d1.size + 1 + kind.size + 1 + d2.size + 1 := by omega
          have hz6 : ¬ 9223372036854775807 < 7 + d1.size + 1 + kind.size + 1 + d2.size + 1 + sb.size := by omega
          go_enter Tryz.func3, Tryz.ntmps3
          go_wp2_with (fail)
          go_region_held3 (fun W' => (convert 22 9 (.slice (some ad) body.length cp)).run Tryz.prog W' = .ok (.string sb) W') (first | exact c0 | exact g0) (first | (go_at_call 10; go_must (first | go_fit (HK.out _) | go_fit (HL.out _)); rintro e w2 ⟨rfl, hb2⟩; have hbb := below_step (by assumption) (Nat.le_refl _) hb2; have g0 := HC.out _ hbb))
          all_goals
            have HBB := Lib.hid hbb
            clear hbb hb2 c0 g0 hB0 HK HL HC
            go_wp2_with (fail)
            refine (implPAE_any kind (HV.out.stay HBB.out) (by omega) (by omega) (HN.out.mono HN.out.le HBB.out)).mono ?_
            rintro e w5 hp
            obtain ⟨v5, rfl, hv5, hb5⟩ := hp.src
            have HB5 := Lib.hid (below_step HBB.out (Nat.le_refl _) hb5)
            have cv5 := hv5.conv
            have hq : (⟨(paeB kind.data.toList body).toArray⟩ : ByteArray) = ⟨#[68, 83, 83, 69, 118, 49, 32]⟩ ++ d1 ++ ⟨#[32]⟩ ++ kind ++ ⟨#[32]⟩ ++ d2 ++ ⟨#[32]⟩ ++ sb := by
              have e1 : (kind.data.toList.length : Int) = ((kind.size : Nat) : Int) := by rw [Lib.size_eq kind]
              rw [HD1.out, HD2.out, HSB.out]
              apply ByteArray.ext
              simp only [ByteArray.data_append, paeB, e1, Lib.itoa_nonneg]
              simp
            rw [hq] at cv5
            clear hq hp hv5 hb5
            go_wp2_with (fail)
            refine (awake_true N w5 (HN.out.mono HN.out.le HB5.out)).mono ?_
            rintro e w6 ⟨rfl, hb6⟩
            have HB6 := Lib.hid (below_step HB5.out (Nat.le_refl _) hb6)
            clear hb6
            go_wp2_with (fail)
            go_ret
            exact ⟨rfl, HB6.out⟩
set_option maxRecDepth 100000 in
set_option maxHeartbeats 8000000 in
theorem fnPAE_nil (kind : ByteArray) {N : Nat} {w : World} (hk : kind.size ≤ 9223372036854775807) (hN : TL N w) :
    Calls Tryz.prog 3 #[.string kind, .slice none 0 0] w fun e w' => e = .returned (.bool true) ∧ Below w.heap.size w w' := by
  have HN := Lib.hid hN
  have HV : Hid (BSrc w (.slice none 0 0) []) := .inl ⟨rfl, rfl⟩
  clear hN
  by_cases h1 : 2147483647 < kind.size
  · have i1 : (2147483647 : Int) < (kind.size : Int) := by omega
    go_enter Tryz.func3, Tryz.ntmps3
    go_wp2_with (fail)
    go_ret
    exact ⟨rfl, Below.refl _ _⟩
  · by_cases h3 : 4000 < kind.size
    · have i1 : ¬ (2147483647 : Int) < (kind.size : Int) := by omega
      have i3 : (4000 : Int) < (kind.size : Int) := by omega
      go_enter Tryz.func3, Tryz.ntmps3
      go_wp2_with (fail)
      refine (awake_true N w HN.out).mono ?_
      rintro e w6 ⟨rfl, hb6⟩
      have HB6 := Lib.hid hb6
      clear hb6
      go_wp2_with (fail)
      go_ret
      exact ⟨rfl, HB6.out⟩
    · have hk1 : kind.size ≤ 4000 := by omega
      obtain ⟨d1, hd1⟩ : ∃ d1 : ByteArray, d1 = ⟨(Lib.decDigits kind.size).toArray⟩ := ⟨_, rfl⟩
      obtain ⟨d2, hd2⟩ : ∃ d2 : ByteArray, d2 = ⟨(Lib.decDigits 0).toArray⟩ := ⟨_, rfl⟩
      obtain ⟨sb, hsb⟩ : ∃ sb : ByteArray, sb = ⟨#[]⟩ := ⟨_, rfl⟩
      have hl1 : d1.size ≤ 40 := by rw [hd1, ← Lib.itoa_nonneg]; show (List.toArray _).size ≤ _; rw [List.size_toArray]; exact itoa_short kind.size (by omega)
      have hl2 : d2.size ≤ 40 := by rw [hd2, ← Lib.itoa_nonneg]; show (List.toArray _).size ≤ _; rw [List.size_toArray]; exact itoa_short 0 (by omega)
      have hl3 : sb.size ≤ 16384 := by rw [hsb]; decide
      have HD1 := Lib.hid hd1
      have HD2 := Lib.hid hd2
      have HSB := Lib.hid hsb
      have HK : Hid (∀ W, Calls Tryz.prog 10 #[.int .u64 (kind.size : Int)] W fun e w' => e = .returned (.string d1) ∧ Below W.heap.size W w') := fun W => by rw [hd1]; exact digits_any kind.size (by omega) W
      have HL : Hid (∀ W, Calls Tryz.prog 10 #[.int .u64 0] W fun e w' => e = .returned (.string d2) ∧ Below W.heap.size W w') := fun W => by rw [hd2]; exact digits_any 0 (by omega) W
      have HC : Hid (∀ W, Below w.heap.size w W → (convert 22 9 (.slice none 0 0)).run Tryz.prog W = .ok (.string sb) W) := fun W hW => by rw [hsb]; exact (HV.out.stay hW).conv
      have hB0 : Below w.heap.size w w.drew := (Below.refl _ _).drew
      have c0 := HC.out _ hB0
      have hw1 : IntKind.u64.wrap (kind.size : Int) = kind.size := by rw [IntKind.wrap_u64]; omega
      clear hd1 hd2 hsb
      have hz0 : ¬ 9223372036854775807 < 7 + d1.size := by omega
      have hz1 : ¬ 9223372036854775807 < 7 + d1.size + 1 := by omega
      have hz2 : ¬ 9223372036854775807 < 7 + d1.size + 1 + kind.size := by omega
      have hz3 : ¬ 9223372036854775807 < 7 + d1.size + 1 + kind.size + 1 := by omega
      have hz4 : ¬ 9223372036854775807 < 7 + d1.size + 1 + kind.size + 1 + d2.size := by omega
      have hz5 : ¬ 9223372036854775807 < 7 + d1.size + 1 + kind.size + 1 + d2.size + 1 := by omega
      have hz6 : ¬ 9223372036854775807 < 7 + d1.size + 1 + kind.size + 1 + d2.size + 1 + sb.size := by omega
      go_enter Tryz.func3, Tryz.ntmps3
      go_wp2_with (fail)
      go_region_held3 (fun W' => (convert 22 9 (.slice none 0 0)).run Tryz.prog W' = .ok (.string sb) W') (first | exact c0 | exact g0) (first | (go_at_call 10; go_must (first | go_fit (HK.out _) | go_fit (HL.out _)); rintro e w2 ⟨rfl, hb2⟩; have hbb := below_step (by assumption) (Nat.le_refl _) hb2; have g0 := HC.out _ hbb))
      all_goals
        have HBB := Lib.hid hbb
        clear hbb hb2 c0 g0 hB0 HK HL HC
        go_wp2_with (fail)
        refine (implPAE_any kind (HV.out.stay HBB.out) (by omega) (by decide) (HN.out.mono HN.out.le HBB.out)).mono ?_
        rintro e w5 hp
        obtain ⟨v5, rfl, hv5, hb5⟩ := hp.src
        have HB5 := Lib.hid (below_step HBB.out (Nat.le_refl _) hb5)
        have cv5 := hv5.conv
        have hq : (⟨(paeB kind.data.toList []).toArray⟩ : ByteArray) = ⟨#[68, 83, 83, 69, 118, 49, 32]⟩ ++ d1 ++ ⟨#[32]⟩ ++ kind ++ ⟨#[32]⟩ ++ d2 ++ ⟨#[32]⟩ ++ sb := by
          have e1 : (kind.data.toList.length : Int) = ((kind.size : Nat) : Int) := by rw [Lib.size_eq kind]
          rw [HD1.out, HD2.out, HSB.out]
          apply ByteArray.ext
          simp only [ByteArray.data_append, paeB, e1, Lib.itoa_nonneg]
          simp
        rw [hq] at cv5
        clear hq hp hv5 hb5
        go_wp2_with (fail)
        refine (awake_true N w5 (HN.out.mono HN.out.le HB5.out)).mono ?_
        rintro e w6 ⟨rfl, hb6⟩
        have HB6 := Lib.hid (below_step HB5.out (Nat.le_refl _) hb6)
        clear hb6
        go_wp2_with (fail)
        go_ret
        exact ⟨rfl, HB6.out⟩
end Go.Proofs.YtlliohgbbboleaaGreatDoor
