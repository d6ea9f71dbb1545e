/- spec.PAE, spec.SignatureOf. -/
import Derived.Test.YtngifhngangpeaaGreatDoorS4
open Go Go.RowKit
namespace Go.Proofs.YtngifhngangpeaaGreatDoor
set_option maxRecDepth 100000 in
set_option maxHeartbeats 4000000 in
theorem dSigned_any (n : Int) (h0 : -9223372036854775808 ≤ n) (h1 : n ≤ 9223372036854775807) {l : List UInt8} {v : Value} {N : Nat} {w : World} (hv : BSrc w v l) (hl : l.length ≤ 1073741824) (hN : TL N w) :
    Calls Tryz.prog 39 #[.int .i64 n, v] w fun e w' => ∃ u, e = .returned u ∧ BSrc w' u (sigB n l) ∧ Below w.heap.size w w' := by
  have HV := Lib.hid hv
  obtain ⟨s, hs⟩ : ∃ s : ByteArray, s = ⟨(Lib.itoa n).toArray⟩ := ⟨_, rfl⟩
  have hsz : s.size ≤ 40 := by rw [hs]; show (List.toArray _).size ≤ _; rw [List.size_toArray]; exact itoaI_len n h0 h1
  have HI : Hid (Calls Tryz.prog 51 #[.int .i64 n] w fun e w' => e = .returned (.string s) ∧ Below w.heap.size w w') := by rw [hs]; exact itoaI_at n h0 h1 hN
  obtain ⟨S, hS⟩ : ∃ S : ByteArray, S = s ++ ⟨#[58]⟩ := ⟨_, rfl⟩
  have HS : Hid (S.data.toList = Lib.itoa n ++ [58]) := by show _ = _; rw [hS, hs]; simp [ByteArray.data_append]
  have hSz : S.size ≤ 41 := by rw [hS, ByteArray.size_append]; have : (⟨#[58]⟩ : ByteArray).size = 1 := rfl; omega
  have hcat := hS.symm
  have kc := fun (w : World) => Lib.run_convert_string_bytes (P := Tryz.prog) w 9 22 5 S Tryz.underlying9 Tryz.underlying22 Tryz.underlying5
  have hz1 : ¬ 9223372036854775807 < s.size + 1 := by omega
  clear hN hv hs hS h0 h1
  go_enter Tryz.func39, Tryz.ntmps39
  go_wp2_with (fail)
  refine HI.out.mono ?_
  rintro e w1 ⟨rfl, hb⟩
  have HB := Lib.hid hb
  have HV1 := Lib.hid (HV.out.stay hb)
  have hSl : S.size + l.length ≤ 4294967296 := by omega
  clear hb HI HV
  go_wp2_with (at_builtin; refine wpList_append_conv rfl _ _ rfl rfl w1 S HV1.out hSl rfl rfl ?_)
  intro v' w2 hv2 hb2
  rw [HS.out] at hv2
  have HV2 : Hid (BSrc w2 v' (sigB n l)) := hv2
  have HB2 := Lib.hid (below_stp HB.out (Nat.le_refl _) hb2)
  clear hv2 hb2 kc hcat HV1
  go_wp2_with (fail)
  go_ret
  exact ⟨v', rfl, HV2.out, HB2.out⟩
theorem specSig_any (n : Int) (h0 : -9223372036854775808 ≤ n) (h1 : n ≤ 9223372036854775807) {l : List UInt8} {v : Value} {N : Nat} {w : World} (hv : BSrc w v l) (hl : l.length ≤ 1073741824) (hN : TL N w) :
    Calls Tryz.prog 15 #[.int .i64 n, v] w fun e w' => ∃ u, e = .returned (.tuple #[u, .bool true]) ∧ BSrc w' u (sigB n l) ∧ Below w.heap.size w w' := by
  have HZ := Lib.hid (dSigned_any n h0 h1 hv hl hN)
  clear hv hN h0 h1
  go_enter Tryz.func15, Tryz.ntmps15
  go_wp2_with (fail)
  refine HZ.out.mono ?_
  rintro e w2 ⟨u, rfl, hv, hb⟩
  have HV := Lib.hid hv
  have HB := Lib.hid hb
  clear hv hb HZ
  go_wp2_with (fail)
  go_ret2
  exact ⟨u, rfl, HV.out, HB.out⟩
set_option maxRecDepth 100000 in
set_option maxHeartbeats 4000000 in
theorem dPAE_any (kind : ByteArray) {ao : Option Addr} {cp : Nat} {body : List UInt8} {N : Nat} {w : World} (hv : BSrc w (.slice ao body.length cp) body) (hk : kind.size ≤ 4000) (hb : body.length ≤ 16384) (hN : TL N w) :
    Calls Tryz.prog 37 #[.string kind, .slice ao body.length cp] w fun e w' => ∃ u, e = .returned u ∧ BSrc w' u (paeB kind.data.toList body) ∧ Below w.heap.size w w' := by
  have HV := Lib.hid hv
  have HN := Lib.hid hN
  obtain ⟨d1, hd1⟩ : ∃ d1 : ByteArray, d1 = ⟨(Lib.itoa kind.size).toArray⟩ := ⟨_, rfl⟩
  obtain ⟨d2, hd2⟩ : ∃ d2 : ByteArray, d2 = ⟨(Lib.itoa body.length).toArray⟩ := ⟨_, rfl⟩
  have hl1 : d1.size ≤ 40 := by rw [hd1]; show (List.toArray _).size ≤ _; rw [List.size_toArray]; exact itoa_short kind.size (by omega)
  have hl2 : d2.size ≤ 40 := by rw [hd2]; show (List.toArray _).size ≤ _; rw [List.size_toArray]; exact itoa_short body.length (by omega)
  have H1 : Hid (∀ W, Below w.heap.size w W → Calls Tryz.prog 51 #[.int .i64 (kind.size : Int)] W fun e w' => e = .returned (.string d1) ∧ Below W.heap.size W w') := fun W hW => by rw [hd1]; exact itoaI_at _ (by omega) (by omega) (HN.out.mono HN.out.le hW)
  have H2 : Hid (∀ W, Below w.heap.size w W → Calls Tryz.prog 51 #[.int .i64 (body.length : Int)] W fun e w' => e = .returned (.string d2) ∧ Below W.heap.size W w') := fun W hW => by rw [hd2]; exact itoaI_at _ (by omega) (by omega) (HN.out.mono HN.out.le hW)
  obtain ⟨S, hS⟩ : ∃ S : ByteArray, S = ⟨#[68, 83, 83, 69, 118, 49, 32]⟩ ++ d1 ++ ⟨#[32]⟩ ++ kind ++ ⟨#[32]⟩ ++ d2 ++ ⟨#[32]⟩ := ⟨_, rfl⟩
  have HS : Hid (S.data.toList ++ body = paeB kind.data.toList body) := by
    show _ = _
    have e1 : (kind.data.toList.length : Int) = ((kind.size : Nat) : Int) := by rw [Lib.size_eq kind]
    rw [hS, hd1, hd2]
    simp only [ByteArray.data_append, paeB, e1]
    simp
  have hSz : S.size ≤ 5000 := by
    rw [hS]
    simp only [ByteArray.size_append]
    have a1 : (⟨#[68, 83, 83, 69, 118, 49, 32]⟩ : ByteArray).size = 7 := rfl
    have a2 : (⟨#[32]⟩ : ByteArray).size = 1 := rfl
    omega
  have hcat := hS.symm
  have kc := fun (w : World) => Lib.run_convert_string_bytes (P := Tryz.prog) w 9 22 5 S Tryz.underlying9 Tryz.underlying22 Tryz.underlying5
  have hz0 : ¬ 9223372036854775807 < 7 + d1.size := by omega
  have hz1 : ¬ 9223372036854775807 < 7 + d1.size + 1 := by omega
  have hz2 : ¬ 9223372036854775807 < 7 + d1.size + 1 + kind.size := by omega
  have hz3 : ¬ 9223372036854775807 < 7 + d1.size + 1 + kind.size + 1 := by omega
  have hz4 : ¬ 9223372036854775807 < 7 + d1.size + 1 + kind.size + 1 + d2.size := by omega
  have hz5 : ¬ 9223372036854775807 < 7 + d1.size + 1 + kind.size + 1 + d2.size + 1 := by omega
  have hB0 : Below w.heap.size w w.drew := (Below.refl _ _).drew
  have hB1 : Below w.heap.size w w := Below.refl _ _
  have hSl : S.size + body.length ≤ 4294967296 := by omega
  clear hN hv hd1 hd2 hS
  go_enter Tryz.func37, Tryz.ntmps37
  go_wp2_with (fail)
  refine (H1.out _ hB1).mono ?_
  rintro e w1 ⟨rfl, hb1⟩
  have HB1 := Lib.hid hb1
  clear hb1 hB0 hB1
  go_wp2_with (fail)
  refine (H2.out _ HB1.out).mono ?_
  rintro e w2 ⟨rfl, hb2⟩
  have HB2 := Lib.hid (below_stp HB1.out (Nat.le_refl _) hb2)
  have HV2 := Lib.hid (HV.out.stay HB2.out)
  clear hb2
  go_wp2_with (at_builtin; refine wpList_append_conv rfl _ _ rfl rfl w2 S HV2.out hSl rfl rfl ?_)
  intro v' w3 hv3 hb3
  rw [HS.out] at hv3
  have HV3 := Lib.hid hv3
  have HB3 := Lib.hid (below_stp HB2.out (Nat.le_refl _) hb3)
  clear hv3 hb3 kc hcat HV2
  go_wp2_with (fail)
  go_ret
  exact ⟨v', rfl, HV3.out, HB3.out⟩
theorem specPAE_any (kind : ByteArray) {ao : Option Addr} {cp : Nat} {body : List UInt8} {N : Nat} {w : World} (hv : BSrc w (.slice ao body.length cp) body) (hk : kind.size ≤ 4000) (hb : body.length ≤ 16384) (hN : TL N w) :
    Calls Tryz.prog 13 #[.string kind, .slice ao body.length cp] w fun e w' => ∃ u, e = .returned (.tuple #[u, .bool true]) ∧ BSrc w' u (paeB kind.data.toList body) ∧ Below w.heap.size w w' := by
  have HZ := Lib.hid (dPAE_any kind hv hk hb hN)
  clear hv hN
  go_enter Tryz.func13, Tryz.ntmps13
  go_wp2_with (fail)
  refine HZ.out.mono ?_
  rintro e w2 ⟨u, rfl, hv, hb⟩
  have HV := Lib.hid hv
  have HB := Lib.hid hb
  clear hv hb HZ
  go_wp2_with (fail)
  go_ret2
  exact ⟨u, rfl, HV.out, HB.out⟩
end Go.Proofs.YtngifhngangpeaaGreatDoor
